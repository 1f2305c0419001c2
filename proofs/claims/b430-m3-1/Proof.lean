import JvmDerived
import JvmDerived.Pilot.@@N@@Statement
import JvmDerived.Pilot.@@N@@Code
set_option linter.unusedVariables false
set_option linter.unusedSimpArgs false
@@BLOCK:NumsL.lean.txt@@
/- laws to paste: pair_says, shr0 (cut by pick.py; bodies as the Statement names them) -/
namespace Jvm.Pilot.@@N@@
namespace StrChars
open Jvm Sem ClassFile Op Lib Jvm.Stand Jvm.Free.XT Jvm.Free.ALB Jvm.Free.JM Jvm.Free
open Jvm.Lib.Cold (StaticIs)
/-- the byte that i2b leaves of a char -/
def lo8 (x : Int32) : Int32 := x.toInt8.toInt32
end StrChars
namespace StrChars
open Jvm Sem ClassFile Op Lib Jvm.Stand Jvm.Free.XT Jvm.Free.ALB Jvm.Free.JM Jvm.Free
open Jvm.Lib.Cold (StaticIs)
def hi8 (x : Int32) : Int32 := lo8 (x >>> ((8 : Int32) &&& 31))
/-- what StringUTF16.getChar makes of two bytes -/
def pairCh (u v : Int32) : Int32 := (((u &&& 255) <<< ((0 : Int32) &&& 31)) ||| ((v &&& 255) <<< ((8 : Int32) &&& 31))).toUInt32.toUInt16.toUInt32.toInt32
theorem shr0 (c : Int32) : c >>> ((0 : Int32) &&& 31) = c := by
  have e : ((0 : Int32) &&& 31) = 0 := by decide
  rw [e]
  apply Int32.toBitVec_inj.mp
  rw [Int32.toBitVec_shiftRight]
  have e1 : ((0 : Int32).toBitVec.smod 32) = 0#32 := by decide
  rw [e1, BitVec.sshiftRight_eq']
  exact BitVec.sshiftRight_zero
theorem lo8_and (x : Int32) : (lo8 x &&& 255).toBitVec.toNat = x.toBitVec.toNat % 256 := by
  have h : (lo8 x).toBitVec = (x.toBitVec.signExtend 8).signExtend 32 := by rw [lo8, Int8.toBitVec_toInt32, Int32.toBitVec_toInt8]
  rw [Int32.toBitVec_and, BitVec.toNat_and, h]
  have e : ((x.toBitVec.signExtend 8).signExtend 32).toNat % 256 = x.toBitVec.toNat % 256 := by
    rw [BitVec.toNat_signExtend]
    have hlt := x.toBitVec.isLt
    simp only [BitVec.toNat_setWidth, BitVec.toNat_signExtend]
    split <;> split <;> omega
  rw [← e]
  exact Nat.and_two_pow_sub_one_eq_mod _ 8
theorem pair_says {c : Int32} (h0 : ¬ c < 0) (h1 : ¬ 65535 < c) : pairCh (lo8 c) (hi8 c) = c := by
  rw [Int32.lt_iff_toInt_lt] at h0 h1
  have e0 : (0 : Int32).toInt = 0 := rfl
  have e1 : (65535 : Int32).toInt = 65535 := rfl
  have hc : c.toInt = c.toBitVec.toNat := by
    have := c.toBitVec.isLt
    have e : c.toInt = c.toBitVec.toInt := rfl
    rw [e] at h0 h1
    rw [e]
    rw [BitVec.toInt_eq_toNat_cond] at h0 h1 ⊢
    split at h0 <;> split <;> omega
  have hn : c.toBitVec.toNat < 65536 := by omega
  have a1 := lo8_and c
  have a2 : (hi8 c &&& 255).toBitVec.toNat = c.toBitVec.toNat / 256 := by
    rw [hi8, lo8_and]
    have e : ((8 : Int32) &&& 31) = 8 := by decide
    rw [e, Int32.toBitVec_shiftRight]
    have e2 : ((8 : Int32).toBitVec.smod 32) = 8#32 := by decide
    rw [e2, BitVec.sshiftRight_eq', BitVec.toNat_sshiftRight_of_msb_false (by rw [BitVec.msb_eq_false_iff_two_mul_lt]; omega)]
    show c.toBitVec.toNat >>> 8 % 256 = _
    rw [Nat.shiftRight_eq_div_pow]
    omega
  unfold pairCh
  apply Int32.toBitVec_inj.mp
  apply BitVec.eq_of_toNat_eq
  have f0 : ((0 : Int32) &&& 31) = 0 := by decide
  have f8 : ((8 : Int32) &&& 31) = 8 := by decide
  rw [f0, f8]
  have g : (((lo8 c &&& 255) <<< (0 : Int32)) ||| ((hi8 c &&& 255) <<< (8 : Int32))).toBitVec.toNat = c.toBitVec.toNat := by
    rw [Int32.toBitVec_or, Int32.toBitVec_shiftLeft, Int32.toBitVec_shiftLeft]
    have s0 : ((0 : Int32).toBitVec.smod 32) = 0#32 := by decide
    have s8 : ((8 : Int32).toBitVec.smod 32) = 8#32 := by decide
    rw [s0, s8, BitVec.toNat_or]
    simp only [BitVec.shiftLeft_eq', BitVec.toNat_shiftLeft, a1, a2]
    show (c.toBitVec.toNat % 256) <<< 0 % 2 ^ 32 ||| (c.toBitVec.toNat / 256) <<< 8 % 2 ^ 32 = _
    rw [Nat.shiftLeft_zero, Nat.mod_eq_of_lt (show c.toBitVec.toNat % 256 < 2 ^ 32 by omega), Nat.mod_eq_of_lt (show (c.toBitVec.toNat / 256) <<< 8 < 2 ^ 32 by rw [Nat.shiftLeft_eq]; omega), Nat.or_comm, ← Nat.shiftLeft_add_eq_or_of_lt (by omega), Nat.shiftLeft_eq]
    omega
  show BitVec.toNat (((((lo8 c &&& 255) <<< (0 : Int32)) ||| ((hi8 c &&& 255) <<< (8 : Int32))).toBitVec.setWidth 16).setWidth 32) = _
  rw [BitVec.toNat_setWidth, BitVec.toNat_setWidth, g]
  omega
end StrChars
end Jvm.Pilot.@@N@@
namespace Jvm.Pilot.@@N@@
open Jvm Jvm.ClassFile Sem Op Lib Jvm.Free Jvm.Stand Jvm.LawKit Jvm.RoadKit Bundle Jvm.Pilot.@@N@@.Jvm.D
section Own
variable {p : Program} {l : Launch} {e : Env} {R : Room} {s : State} {m : MethodId} {args : Array Value} {below : List Frame} {meth : Method} {c : Code} {T : State} {locs : List Loc} {cells slots : Nat} {Z : State} {a0 : Array Value} {h : Heap}
/-- from S the invocation ends, and G holds of the end -/
def Gl (p : Program) (e : Env) (below : List Frame) (G : State → Outcome → Prop) (S : State) : Prop :=
  ∃ s₂ o, Steps p.tables e below S s₂ ∧ s₂.status = .running ∧ Ended s₂ below o ∧ G s₂ o
theorem Gl.of {G : State → Outcome → Prop} {S S' : State} (h : ∀ t, Steps p.tables e below S' t → Steps p.tables e below S t) (g : Gl p e below G S') : Gl p e below G S := by
  obtain ⟨s2, o, a, b⟩ := g
  exact ⟨s2, o, h _ a, b⟩
def Gd (s : State) (Q : Option Value → Heap → List Loc → Prop) (C N : Nat) (t : State) (o : Outcome) : Prop := ∃ v L, o = .returned v ∧ Q v t.heap L ∧ FrameEnd s o t L C N
def Con (l : Launch) (Z : State) (y : MethodName) (bytes : ByteArray) (maxL : Nat) (rt : Option FieldType) (ws : List Jvm.Cond) (rm : Room) (C N : Nat) (as : Array Value) (h : Heap) (Q : Option Value → Heap → List Loc → Prop) : Prop :=
  MetFree l y (head1 (Jvm.Cond.code y bytes maxL rt :: ws) rm) (fun a U => a = as ∧ Z.Warmed39 U.vm ∧ U.heap = h) (fun _ _ _ _ _ => True) (fun _ U o U' => ∃ v L, o = .returned v ∧ Q v U'.heap L ∧ FrameEnd U o U' L C N)
theorem Con.intro {y : MethodName} {bytes : ByteArray} {maxL : Nat} {rt : Option FieldType} {ws : List Jvm.Cond} {rm : Room} {C N : Nat} {as : Array Value} {Q : Option Value → Heap → List Loc → Prop} (hp : plainFor y = true)
    (body : ∀ p e s m below meth c s₁, Stand p l e rm s m as below meth c s₁ [] 0 0 → p.tables.exec = Jvm.exec → c.code = bytes → c.maxLocals = maxL → Z.Warmed39 s.vm → s.vm.findClass y.cls = some m.cls → meth.name = y.name → meth.sig.returnType = rt → meth.locks = false → s₁.heap = h → s.heap = h →
      Gl p e below (Gd s Q C N) (s₁.setTop (entryFrame m as maxL))) : Con l Z y bytes maxL rt ws rm C N as h Q := by
  refine MetFree.of_bodySF hp hisR ?_
  intro p e s m args below meth c s₁ Bd hml0 hP hK
  obtain ⟨rfl, hZ, hh⟩ := hP
  exact body p e s m below meth c s₁ (Stand.of_body Bd) Bd.exec Bd.bytes hml0 hZ (findClass_of_methodNamed Bd.named) (name_of_methodNamed Bd.named Bd.method).1 Bd.returns (BodyLoose.notSynchronized Bd) (by rw [← hh, Bd.state]; rfl) hh
theorem Gl.leaf {Q : Option Value → Heap → List Loc → Prop} {C N : Nat} (X : Stand p l e R s m args below meth c T locs cells slots) (hlk : meth.locks = false) {v : Option Value} (hv : meth.sig.returnType = none → v = none) {S : State}
    (st : ∀ fs, (∀ (f : JFrame) (acts : List Action), f.method = m → f.locked = none → f.entered = [] → (doReturn e (T.setTop f) acts v).1 = T.setFrames fs) → Steps p.tables e below S (T.setFrames fs)) (eT : T.heap = h) (hQ : Q v h locs) (hC : cells ≤ C) (hN : slots ≤ N) : Gl p e below (Gd s Q C N) S := by
  obtain ⟨fs, hr, hrun, hended, hW, hsame⟩ := X.leave (v := v) hv hlk
  exact ⟨_, _, st fs hr, hrun, hended, v, locs, rfl, by show Q v T.heap locs; rw [eT]; exact hQ, ⟨_, rfl⟩, hW, hsame.mono hC hN⟩
/-- ireturn of an int -/
theorem Gl.retI {Q : Option Value → Heap → List Loc → Prop} {C N : Nat} (X : Stand p l e R s m args below meth c T locs cells slots) (hx : p.tables.exec = Jvm.exec) (hlk : meth.locks = false) (hret : meth.sig.returnType = some .int) {pc : Nat} {Ls : Array Slot} {z : Int32} {rest : List Value} (hd : decode c.code pc = .ok (.ireturn, 1))
    (eT : T.heap = h) (hQ : Q (some (.int z)) h locs) (hC : cells ≤ C) (hN : slots ≤ N) : Gl p e below (Gd s Q C N) (T.setTop (mkF m pc Ls (.int z :: rest))) :=
  Gl.leaf X hlk (fun q => by rw [hret] at q; cases q) (fun fs hr => retOut X hx hret rfl (Or.inl ⟨rfl, Or.inl rfl, z, rfl⟩) hd hr) eT hQ hC hN
/-- ireturn of a boolean, byte, char, short -/
theorem Gl.retN {Q : Option Value → Heap → List Loc → Prop} {C N : Nat} (X : Stand p l e R s m args below meth c T locs cells slots) (hx : p.tables.exec = Jvm.exec) (hlk : meth.locks = false) {t : FieldType} (hret : meth.sig.returnType = some t) (ht : t = .boolean ∨ t = .byte ∨ t = .char ∨ t = .short) {pc : Nat} {Ls : Array Slot} {z : Int32} {rest : List Value} (hd : decode c.code pc = .ok (.ireturn, 1))
    (eT : T.heap = h) (hQ : Q (some (.int (nar t z))) h locs) (hC : cells ≤ C) (hN : slots ≤ N) : Gl p e below (Gd s Q C N) (T.setTop (mkF m pc Ls (.int z :: rest))) :=
  Gl.leaf X hlk (fun q => by rw [hret] at q; cases q) (fun fs hr => Jvm.RoadKit.retN X hx hret ht hd hr) eT hQ hC hN
/-- areturn -/
theorem Gl.retR {Q : Option Value → Heap → List Loc → Prop} {C N : Nat} (X : Stand p l e R s m args below meth c T locs cells slots) (hx : p.tables.exec = Jvm.exec) (hlk : meth.locks = false) {t : FieldType} (hret : meth.sig.returnType = some t) (ht : t.isReference = true) {pc : Nat} {Ls : Array Slot} {w : Value} (hw : w.isRef = true) {rest : List Value} (hd : decode c.code pc = .ok (.areturn, 1))
    (eT : T.heap = h) (hQ : Q (some w) h locs) (hC : cells ≤ C) (hN : slots ≤ N) : Gl p e below (Gd s Q C N) (T.setTop (mkF m pc Ls (w :: rest))) :=
  Gl.leaf X hlk (fun q => by rw [hret] at q; cases q) (fun fs hr => retOut X hx hret (by cases t <;> first | (cases ht; done) | (rcases ref_cases hw with rfl | ⟨_, rfl⟩ <;> rfl)) (Or.inr (Or.inr (Or.inr (Or.inr ⟨rfl, ht, hw⟩)))) hd hr) eT hQ hC hN
/-- dreturn -/
theorem Gl.retD {Q : Option Value → Heap → List Loc → Prop} {C N : Nat} (X : Stand p l e R s m args below meth c T locs cells slots) (hx : p.tables.exec = Jvm.exec) (hlk : meth.locks = false) (hret : meth.sig.returnType = some .double) {pc : Nat} {Ls : Array Slot} {z : UInt64} {rest : List Value} (hd : decode c.code pc = .ok (.dreturn, 1))
    (eT : T.heap = h) (hQ : Q (some (.double z)) h locs) (hC : cells ≤ C) (hN : slots ≤ N) : Gl p e below (Gd s Q C N) (T.setTop (mkF m pc Ls (.double z :: rest))) :=
  Gl.leaf X hlk (fun q => by rw [hret] at q; cases q) (fun fs hr => retOut X hx hret rfl (Or.inr (Or.inr (Or.inl ⟨rfl, rfl, z, rfl⟩))) hd hr) eT hQ hC hN
/-- return -/
theorem Gl.ret0 {Q : Option Value → Heap → List Loc → Prop} {C N : Nat} (X : Stand p l e R s m args below meth c T locs cells slots) (hx : p.tables.exec = Jvm.exec) (hlk : meth.locks = false) (hret : meth.sig.returnType = none) {pc : Nat} {Ls : Array Slot} (hd : decode c.code pc = .ok (.return_, 1))
    (eT : T.heap = h) (hQ : Q none h locs) (hC : cells ≤ C) (hN : slots ≤ N) : Gl p e below (Gd s Q C N) (T.setTop (mkF m pc Ls [])) :=
  Gl.leaf X hlk (fun _ => rfl) (fun fs hr => X.returnOut hx hret hd hr) eT hQ hC hN
/-- the end of a walk that may have interned -/
def GdW (s : State) (Q : Option Value → Heap → List Loc → Prop) (C N : Nat) (t : State) (o : Outcome) : Prop := ∃ v L, o = .returned v ∧ Q v t.heap L ∧ ReturnedEndW s o t L C N
def ConW (l : Launch) (Z : State) (y : MethodName) (bytes : ByteArray) (maxL : Nat) (rt : Option FieldType) (ws : List Jvm.Cond) (rm : Room) (C N : Nat) (as : Array Value) (h : Heap) (Q : Option Value → Heap → List Loc → Prop) : Prop :=
  MetFree l y (head1 (Jvm.Cond.code y bytes maxL rt :: ws) rm) (fun a U => a = as ∧ Z.Warmed39 U.vm ∧ U.heap = h) (fun _ _ _ _ _ => True) (fun _ U o U' => ∃ v L, o = .returned v ∧ Q v U'.heap L ∧ ReturnedEndW U o U' L C N)
theorem ConW.intro {y : MethodName} {bytes : ByteArray} {maxL : Nat} {rt : Option FieldType} {ws : List Jvm.Cond} {rm : Room} {C N : Nat} {as : Array Value} {Q : Option Value → Heap → List Loc → Prop} (hp : plainFor y = true)
    (body : ∀ p e s m below meth c s₁, Stand p l e rm s m as below meth c s₁ [] 0 0 → p.tables.exec = Jvm.exec → c.code = bytes → c.maxLocals = maxL → Z.Warmed39 s.vm → s.vm.findClass y.cls = some m.cls → meth.name = y.name → meth.sig.returnType = rt → meth.locks = false → s₁.heap = h → s.heap = h →
      Gl p e below (GdW s Q C N) (s₁.setTop (entryFrame m as maxL))) : ConW l Z y bytes maxL rt ws rm C N as h Q := by
  refine MetFree.of_bodySF hp hisR ?_
  intro p e s m args below meth c s₁ Bd hml0 hP hK
  obtain ⟨rfl, hZ, hh⟩ := hP
  exact body p e s m below meth c s₁ (Stand.of_body Bd) Bd.exec Bd.bytes hml0 hZ (findClass_of_methodNamed Bd.named) (name_of_methodNamed Bd.named Bd.method).1 Bd.returns (BodyLoose.notSynchronized Bd) (by rw [← hh, Bd.state]; rfl) hh
theorem Gl.leafW {Q : Option Value → Heap → List Loc → Prop} {C N n : Nat} {vm₁ : Vm} (X : Stand p l e R (s.setVm vm₁) m args below meth c T locs cells slots) (hlk : meth.locks = false) {v : Option Value} (hv : meth.sig.returnType = none → v = none) {S : State}
    (st : ∀ fs, (∀ (f : JFrame) (acts : List Action), f.method = m → f.locked = none → f.entered = [] → (doReturn e (T.setTop f) acts v).1 = T.setFrames fs) → Steps p.tables e below S (T.setFrames fs)) (eT : T.heap = h) (hQ : Q v h locs) (hS : s.Since vm₁ n) (hn : n ≤ h.size) (hC : cells ≤ C) (hN : slots ≤ N) : Gl p e below (GdW s Q C N) S := by
  obtain ⟨fs, hr, hrun, hended, hW⟩ := X.leaveW hS (by rw [eT]; exact hn) (v := v) hv hlk
  exact ⟨_, _, st fs hr, hrun, hended, v, locs, rfl, by show Q v T.heap locs; rw [eT]; exact hQ, hW.1, hW.2.1, hW.2.2.1, hW.2.2.2.mono hC hN⟩
theorem Gl.retNW {Q : Option Value → Heap → List Loc → Prop} {C N n : Nat} {vm₁ : Vm} (X : Stand p l e R (s.setVm vm₁) m args below meth c T locs cells slots) (hx : p.tables.exec = Jvm.exec) (hlk : meth.locks = false) {t : FieldType} (hret : meth.sig.returnType = some t) (ht : t = .boolean ∨ t = .byte ∨ t = .char ∨ t = .short) {pc : Nat} {Ls : Array Slot} {z : Int32} {rest : List Value} (hd : decode c.code pc = .ok (.ireturn, 1))
    (eT : T.heap = h) (hQ : Q (some (.int (nar t z))) h locs) (hS : s.Since vm₁ n) (hn : n ≤ h.size) (hC : cells ≤ C) (hN : slots ≤ N) : Gl p e below (GdW s Q C N) (T.setTop (mkF m pc Ls (.int z :: rest))) :=
  Gl.leafW X hlk (fun q => by rw [hret] at q; cases q) (fun fs hr => Jvm.RoadKit.retN X hx hret ht hd hr) eT hQ hS hn hC hN
theorem Gl.retRW {Q : Option Value → Heap → List Loc → Prop} {C N n : Nat} {vm₁ : Vm} (X : Stand p l e R (s.setVm vm₁) m args below meth c T locs cells slots) (hx : p.tables.exec = Jvm.exec) (hlk : meth.locks = false) {t : FieldType} (hret : meth.sig.returnType = some t) (ht : t.isReference = true) {pc : Nat} {Ls : Array Slot} {w : Value} (hw : w.isRef = true) {rest : List Value} (hd : decode c.code pc = .ok (.areturn, 1))
    (eT : T.heap = h) (hQ : Q (some w) h locs) (hS : s.Since vm₁ n) (hn : n ≤ h.size) (hC : cells ≤ C) (hN : slots ≤ N) : Gl p e below (GdW s Q C N) (T.setTop (mkF m pc Ls (w :: rest))) :=
  Gl.leafW X hlk (fun q => by rw [hret] at q; cases q) (fun fs hr => retOut X hx hret (by cases t <;> first | (cases ht; done) | (rcases ref_cases hw with rfl | ⟨_, rfl⟩ <;> rfl)) (Or.inr (Or.inr (Or.inr (Or.inr ⟨rfl, ht, hw⟩)))) hd hr) eT hQ hS hn hC hN
theorem Gl.ret0W {Q : Option Value → Heap → List Loc → Prop} {C N n : Nat} {vm₁ : Vm} (X : Stand p l e R (s.setVm vm₁) m args below meth c T locs cells slots) (hx : p.tables.exec = Jvm.exec) (hlk : meth.locks = false) (hret : meth.sig.returnType = none) {pc : Nat} {Ls : Array Slot} (hd : decode c.code pc = .ok (.return_, 1))
    (eT : T.heap = h) (hQ : Q none h locs) (hS : s.Since vm₁ n) (hn : n ≤ h.size) (hC : cells ≤ C) (hN : slots ≤ N) : Gl p e below (GdW s Q C N) (T.setTop (mkF m pc Ls [])) :=
  Gl.leafW X hlk (fun _ => rfl) (fun fs hr => X.returnOut hx hret hd hr) eT hQ hS hn hC hN
theorem ref_nar {r : Value} {C : String} (h : r.isRef = true) : narrow (.object C) r = r := by rcases ref_cases h with rfl | ⟨_, rfl⟩ <;> rfl
theorem ref_fit {r : Value} {C : String} (h : r.isRef = true) : fits (.object C) r = true := by rcases ref_cases h with rfl | ⟨_, rfl⟩ <;> rfl
theorem cat_ref {r : Value} (h : r.isRef = true) : r.category = 1 := by rcases ref_cases h with rfl | ⟨_, rfl⟩ <;> rfl
/-- what a callee that writes and makes nothing leaves -/
def Pur (F : Option Value → Prop) (h0 : Heap) (v : Option Value) (h : Heap) (L : List Loc) : Prop := F v ∧ h = h0 ∧ L = []
theorem desc_ne {n : String} (h : (n == "java/lang/invoke/MethodHandle" || n == "java/lang/invoke/VarHandle") = false) : n ≠ "java/lang/invoke/MethodHandle" ∧ n ≠ "java/lang/invoke/VarHandle" := by
  simp only [Bool.or_eq_false_iff, beq_eq_false_iff_ne, ne_eq] at h
  exact h
/-- a static call by its contract -/
theorem Gl.callS {G : State → Outcome → Prop} (X : Stand p l e R s m args below meth c T locs cells slots) (hx : p.tables.exec = Jvm.exec) (hZ : Z.Warmed39 s.vm) {own : String} {index : Nat} {y : MethodName} {bytes : ByteArray} {maxL : Nat} {rt : Option FieldType} (hown : s.vm.findClass own = some m.cls)
    (w1 : (Jvm.Cond.methodLink own index y).before a0 Z = true) (w2 : (Jvm.Cond.static y).before a0 Z = true) (w3 : (Jvm.Cond.initialized y.cls).before a0 Z = true) (w4 : (Jvm.Cond.code y bytes maxL rt).before a0 Z = true) (hy : y.cls ≠ "java/lang/invoke/MethodHandle" ∧ y.cls ≠ "java/lang/invoke/VarHandle")
    {rm : Room} {Q : Option Value → Heap → List Loc → Prop} {argsL rest : List Value} (hM : Con l Z y bytes maxL rt [] rm rm.cells rm.slots argsL.toArray h Q) (W : Nat) (hf : rm.frames + 1 ≤ R.frames) (hl : W + (maxL + 11) + rm.locals ≤ R.locals) (hcl : cells + rm.cells ≤ R.cells) (hsl : slots + rm.slots ≤ R.slots) (eT : T.heap = h)
    {pc : Nat} {Ls : Array Slot} {st : List Value} (hsz : Ls.size = c.maxLocals) {ps : List FieldType} {r' : Option FieldType} (hds : parseMethodDescriptor y.desc = some ⟨ps, r'⟩) (hlen : argsL.length = ps.length) (hst : st = argsL.reverse ++ rest) (hW : 2 * 0 + (rest.map fun v => v.category).sum ≤ W) (hd : decode c.code pc = .ok (.invokestatic index, 3))
    (k : ∀ (v : Option Value) (T' : State) (L : List Loc), Stand p l e R s m args below meth c T' (locs ++ L) (cells + rm.cells) (slots + rm.slots) → Q v T'.heap L → Gl p e below G (T'.setTop (mkF m (pc + 3) Ls (v.toList ++ rest)))) : Gl p e below G (T.setTop (mkF m pc Ls st)) := by
  obtain ⟨v, _, ⟨T', L', k', n'⟩, -, X', ⟨Lc, hQ, l1, y1, z1⟩, stp⟩ := Jvm.LawKit.callS X hx (y := y) hown (mvT hZ w1) (mvT hZ w2) (mvT hZ w3) (mvT hZ w4) hy (backOf (W := W) hM hZ w4 w3 hf hl) (g := mkF m pc Ls st) rfl hsz (argsL := argsL) (rest := rest) (lenOf hds hlen) hst hW hd (fun _ _ => ⟨rfl, eT, hcl, hsl⟩)
  dsimp only [Pt.U, Pt.locs, Pt.cells, Pt.slots] at X' l1 y1 z1 stp hQ
  subst l1 y1 z1
  exact Gl.of stp (k v T' Lc X' hQ)
theorem Gl.callS0 {G : State → Outcome → Prop} (X : Stand p l e R s m args below meth c T locs cells slots) (hx : p.tables.exec = Jvm.exec) (hZ : Z.Warmed39 s.vm) {own : String} {index : Nat} {y : MethodName} {bytes : ByteArray} {maxL : Nat} {rt : Option FieldType} (hown : s.vm.findClass own = some m.cls)
    (w1 : (Jvm.Cond.methodLink own index y).before a0 Z = true) (w2 : (Jvm.Cond.static y).before a0 Z = true) (w3 : (Jvm.Cond.initialized y.cls).before a0 Z = true) (w4 : (Jvm.Cond.code y bytes maxL rt).before a0 Z = true) (hy : y.cls ≠ "java/lang/invoke/MethodHandle" ∧ y.cls ≠ "java/lang/invoke/VarHandle")
    {fr lo : Nat} {F : Option Value → Prop} {argsL rest : List Value} (hM : Con l Z y bytes maxL rt [] ({ frames := fr, cells := 0, slots := 0, locals := lo } : Room) 0 0 argsL.toArray h (Pur F h)) (W : Nat) (hf : fr + 1 ≤ R.frames) (hl : W + (maxL + 11) + lo ≤ R.locals) (eT : T.heap = h)
    {pc : Nat} {Ls : Array Slot} {st : List Value} (hsz : Ls.size = c.maxLocals) {ps : List FieldType} {r' : Option FieldType} (hds : parseMethodDescriptor y.desc = some ⟨ps, r'⟩) (hlen : argsL.length = ps.length) (hst : st = argsL.reverse ++ rest) (hW : 2 * 0 + (rest.map fun v => v.category).sum ≤ W) (hd : decode c.code pc = .ok (.invokestatic index, 3)) (hcl : cells ≤ R.cells) (hsl : slots ≤ R.slots)
    (k : ∀ (v : Option Value) (T' : State), Stand p l e R s m args below meth c T' locs cells slots → T'.heap = h → F v → Gl p e below G (T'.setTop (mkF m (pc + 3) Ls (v.toList ++ rest)))) : Gl p e below G (T.setTop (mkF m pc Ls st)) := by
  refine Gl.callS X hx hZ hown w1 w2 w3 w4 hy hM W hf hl hcl hsl eT hsz hds hlen hst hW hd ?_
  intro v T' L X' hQ
  obtain ⟨q1, q2, rfl⟩ := hQ
  rw [List.append_nil] at X'
  exact k v T' X' q2 q1
/-- an instance method that the receiver's class selects, by its contract -/
theorem Gl.callV {G : State → Outcome → Prop} (X : Stand p l e R s m args below meth c T locs cells slots) (hx : p.tables.exec = Jvm.exec) (hZ : Z.Warmed39 s.vm) {own C : String} {index : Nat} {y z : MethodName} {bytes : ByteArray} {maxL : Nat} {rt : Option FieldType} (hown : s.vm.findClass own = some m.cls)
    (w1 : (Jvm.Cond.methodLink own index y).before a0 Z = true) (w2 : (Jvm.Cond.declares y).before a0 Z = true) (nf : NotFace s y) (w3 : (Jvm.Cond.selects C y z).before a0 Z = true) (w4 : (Jvm.Cond.instanceMethod z).before a0 Z = true) (w5 : (Jvm.Cond.code z bytes maxL rt).before a0 Z = true) (w6 : (Jvm.Cond.initialized z.cls).before a0 Z = true) (hy : y.cls ≠ "java/lang/invoke/MethodHandle" ∧ y.cls ≠ "java/lang/invoke/VarHandle")
    {rm : Room} {Q : Option Value → Heap → List Loc → Prop} {b : Addr} {argsL rest : List Value} (hE : Exa Z h b C) (hM : Con l Z z bytes maxL rt [] rm rm.cells rm.slots (.ref b :: argsL).toArray h Q) (W : Nat) (hf : rm.frames + 1 ≤ R.frames) (hl : W + (maxL + 11) + rm.locals ≤ R.locals) (hcl : cells + rm.cells ≤ R.cells) (hsl : slots + rm.slots ≤ R.slots) (eT : T.heap = h)
    {pc : Nat} {Ls : Array Slot} {st : List Value} (hsz : Ls.size = c.maxLocals) {ps : List FieldType} {r' : Option FieldType} (hds : parseMethodDescriptor y.desc = some ⟨ps, r'⟩) (hlen : argsL.length = ps.length) (hst : st = argsL.reverse ++ .ref b :: rest) (hW : 2 * 0 + (rest.map fun v => v.category).sum ≤ W) (hd : decode c.code pc = .ok (.invokevirtual index, 3))
    (k : ∀ (v : Option Value) (T' : State) (L : List Loc), Stand p l e R s m args below meth c T' (locs ++ L) (cells + rm.cells) (slots + rm.slots) → Q v T'.heap L → Gl p e below G (T'.setTop (mkF m (pc + 3) Ls (v.toList ++ rest)))) : Gl p e below G (T.setTop (mkF m pc Ls st)) := by
  obtain ⟨cq, kq, qa, qb, qc⟩ := isOf hZ eT hE
  obtain ⟨v, _, ⟨T', L', k', n'⟩, -, X', ⟨Lc, hQ, l1, y1, z1⟩, stp⟩ := X.virtualBack hx (y := y) (z := z) hown (mvT hZ w1) (mvT hZ w2) nf (mvT hZ w3) (mvT hZ w4) hy (backOf (W := W) hM hZ w5 w6 hf hl) qa qc (g := mkF m pc Ls st) rfl hsz (Steps.refl _) (argsL := argsL) (rest := rest) (lenOf hds hlen) hst hW hd (fun _ _ => ⟨rfl, eT, hcl, hsl⟩)
  dsimp only [Pt.U, Pt.locs, Pt.cells, Pt.slots] at X' l1 y1 z1 stp hQ
  subst l1 y1 z1
  exact Gl.of (fun t q => stp.trans q) (k v T' Lc X' hQ)
theorem Gl.callV0 {G : State → Outcome → Prop} (X : Stand p l e R s m args below meth c T locs cells slots) (hx : p.tables.exec = Jvm.exec) (hZ : Z.Warmed39 s.vm) {own C : String} {index : Nat} {y z : MethodName} {bytes : ByteArray} {maxL : Nat} {rt : Option FieldType} (hown : s.vm.findClass own = some m.cls)
    (w1 : (Jvm.Cond.methodLink own index y).before a0 Z = true) (w2 : (Jvm.Cond.declares y).before a0 Z = true) (nf : NotFace s y) (w3 : (Jvm.Cond.selects C y z).before a0 Z = true) (w4 : (Jvm.Cond.instanceMethod z).before a0 Z = true) (w5 : (Jvm.Cond.code z bytes maxL rt).before a0 Z = true) (w6 : (Jvm.Cond.initialized z.cls).before a0 Z = true) (hy : y.cls ≠ "java/lang/invoke/MethodHandle" ∧ y.cls ≠ "java/lang/invoke/VarHandle")
    {fr lo : Nat} {F : Option Value → Prop} {b : Addr} {argsL rest : List Value} (hE : Exa Z h b C) (hM : Con l Z z bytes maxL rt [] ({ frames := fr, cells := 0, slots := 0, locals := lo } : Room) 0 0 (.ref b :: argsL).toArray h (Pur F h)) (W : Nat) (hf : fr + 1 ≤ R.frames) (hl : W + (maxL + 11) + lo ≤ R.locals) (eT : T.heap = h)
    {pc : Nat} {Ls : Array Slot} {st : List Value} (hsz : Ls.size = c.maxLocals) {ps : List FieldType} {r' : Option FieldType} (hds : parseMethodDescriptor y.desc = some ⟨ps, r'⟩) (hlen : argsL.length = ps.length) (hst : st = argsL.reverse ++ .ref b :: rest) (hW : 2 * 0 + (rest.map fun v => v.category).sum ≤ W) (hd : decode c.code pc = .ok (.invokevirtual index, 3)) (hcl : cells ≤ R.cells) (hsl : slots ≤ R.slots)
    (k : ∀ (v : Option Value) (T' : State), Stand p l e R s m args below meth c T' locs cells slots → T'.heap = h → F v → Gl p e below G (T'.setTop (mkF m (pc + 3) Ls (v.toList ++ rest)))) : Gl p e below G (T.setTop (mkF m pc Ls st)) := by
  refine Gl.callV X hx hZ hown w1 w2 nf w3 w4 w5 w6 hy hE hM W hf hl hcl hsl eT hsz hds hlen hst hW hd ?_
  intro v T' L X' hQ
  obtain ⟨q1, q2, rfl⟩ := hQ
  rw [List.append_nil] at X'
  exact k v T' X' q2 q1
/-- a private instance method by its contract -/
theorem Gl.callP {G : State → Outcome → Prop} (X : Stand p l e R s m args below meth c T locs cells slots) (hx : p.tables.exec = Jvm.exec) (hZ : Z.Warmed39 s.vm) {own C : String} {index : Nat} {y : MethodName} {bytes : ByteArray} {maxL : Nat} {rt : Option FieldType} (hown : s.vm.findClass own = some m.cls)
    (w1 : (Jvm.Cond.methodLink own index y).before a0 Z = true) (nf : NotFace s y) (w3 : (Jvm.Cond.privateMethod y).before a0 Z = true) (w4 : (Jvm.Cond.instanceMethod y).before a0 Z = true) (w5 : (Jvm.Cond.code y bytes maxL rt).before a0 Z = true) (w6 : (Jvm.Cond.initialized y.cls).before a0 Z = true) (hy : y.cls ≠ "java/lang/invoke/MethodHandle" ∧ y.cls ≠ "java/lang/invoke/VarHandle")
    {rm : Room} {Q : Option Value → Heap → List Loc → Prop} {b : Addr} {argsL rest : List Value} (hE : Exa Z h b C) (hM : Con l Z y bytes maxL rt [] rm rm.cells rm.slots (.ref b :: argsL).toArray h Q) (W : Nat) (hf : rm.frames + 1 ≤ R.frames) (hl : W + (maxL + 11) + rm.locals ≤ R.locals) (hcl : cells + rm.cells ≤ R.cells) (hsl : slots + rm.slots ≤ R.slots) (eT : T.heap = h)
    {pc : Nat} {Ls : Array Slot} {st : List Value} (hsz : Ls.size = c.maxLocals) {ps : List FieldType} {r' : Option FieldType} (hds : parseMethodDescriptor y.desc = some ⟨ps, r'⟩) (hlen : argsL.length = ps.length) (hst : st = argsL.reverse ++ .ref b :: rest) (hW : 2 * 0 + (rest.map fun v => v.category).sum ≤ W) (hd : decode c.code pc = .ok (.invokevirtual index, 3))
    (k : ∀ (v : Option Value) (T' : State) (L : List Loc), Stand p l e R s m args below meth c T' (locs ++ L) (cells + rm.cells) (slots + rm.slots) → Q v T'.heap L → Gl p e below G (T'.setTop (mkF m (pc + 3) Ls (v.toList ++ rest)))) : Gl p e below G (T.setTop (mkF m pc Ls st)) := by
  obtain ⟨cq, q, q'⟩ := hE.cell
  have hpv := Cond.privateMethod_at (mvP hZ w3 (args := #[]))
  have hin : (Jvm.Cond.instanceMethod y).before args s = true := mvT hZ w4
  obtain ⟨mk, methM, hnamed, hmethM, -, -⟩ := Cond.instanceMethod_spec hin
  obtain ⟨kc, hkc, hkni⟩ := nf mk hnamed
  have hsel : (Jvm.Cond.selects y.cls y y).before args s = true := selects_self_of_private (findClass_of_methodNamed hnamed) hkc hkni hpv hin hy
  obtain ⟨v, _, ⟨T', L', k', n'⟩, -, X', ⟨Lc, hQ, l1, y1, z1⟩, stp⟩ := X.privateBack hx (y := y) hown (mvT hZ w1) hin hsel hpv (mvT hZ w5) hy (backOf (W := W) hM hZ w5 w6 hf hl) (g := mkF m pc Ls st) rfl hsz (Steps.refl _) (a := b) (by rw [eT]; exact q) q' (argsL := argsL) (rest := rest) (lenOf hds hlen) hst hW hd (fun _ _ => ⟨rfl, eT, hcl, hsl⟩)
  dsimp only [Pt.U, Pt.locs, Pt.cells, Pt.slots] at X' l1 y1 z1 stp hQ
  subst l1 y1 z1
  exact Gl.of (fun t q => stp.trans q) (k v T' Lc X' hQ)
theorem Gl.callP0 {G : State → Outcome → Prop} (X : Stand p l e R s m args below meth c T locs cells slots) (hx : p.tables.exec = Jvm.exec) (hZ : Z.Warmed39 s.vm) {own C : String} {index : Nat} {y : MethodName} {bytes : ByteArray} {maxL : Nat} {rt : Option FieldType} (hown : s.vm.findClass own = some m.cls)
    (w1 : (Jvm.Cond.methodLink own index y).before a0 Z = true) (nf : NotFace s y) (w3 : (Jvm.Cond.privateMethod y).before a0 Z = true) (w4 : (Jvm.Cond.instanceMethod y).before a0 Z = true) (w5 : (Jvm.Cond.code y bytes maxL rt).before a0 Z = true) (w6 : (Jvm.Cond.initialized y.cls).before a0 Z = true) (hy : y.cls ≠ "java/lang/invoke/MethodHandle" ∧ y.cls ≠ "java/lang/invoke/VarHandle")
    {fr lo : Nat} {F : Option Value → Prop} {b : Addr} {argsL rest : List Value} (hE : Exa Z h b C) (hM : Con l Z y bytes maxL rt [] ({ frames := fr, cells := 0, slots := 0, locals := lo } : Room) 0 0 (.ref b :: argsL).toArray h (Pur F h)) (W : Nat) (hf : fr + 1 ≤ R.frames) (hl : W + (maxL + 11) + lo ≤ R.locals) (eT : T.heap = h)
    {pc : Nat} {Ls : Array Slot} {st : List Value} (hsz : Ls.size = c.maxLocals) {ps : List FieldType} {r' : Option FieldType} (hds : parseMethodDescriptor y.desc = some ⟨ps, r'⟩) (hlen : argsL.length = ps.length) (hst : st = argsL.reverse ++ .ref b :: rest) (hW : 2 * 0 + (rest.map fun v => v.category).sum ≤ W) (hd : decode c.code pc = .ok (.invokevirtual index, 3)) (hcl : cells ≤ R.cells) (hsl : slots ≤ R.slots)
    (k : ∀ (v : Option Value) (T' : State), Stand p l e R s m args below meth c T' locs cells slots → T'.heap = h → F v → Gl p e below G (T'.setTop (mkF m (pc + 3) Ls (v.toList ++ rest)))) : Gl p e below G (T.setTop (mkF m pc Ls st)) := by
  refine Gl.callP X hx hZ hown w1 nf w3 w4 w5 w6 hy hE hM W hf hl hcl hsl eT hsz hds hlen hst hW hd ?_
  intro v T' L X' hQ
  obtain ⟨q1, q2, rfl⟩ := hQ
  rw [List.append_nil] at X'
  exact k v T' X' q2 q1
/-- a constructor by its contract -/
theorem Gl.callI {G : State → Outcome → Prop} (X : Stand p l e R s m args below meth c T locs cells slots) (hx : p.tables.exec = Jvm.exec) (hZ : Z.Warmed39 s.vm) {own : String} {index : Nat} {y : MethodName} {bytes : ByteArray} {maxL : Nat} (hy1 : y.name = "<init>") (hown : s.vm.findClass own = some m.cls)
    (w1 : (Jvm.Cond.methodLink own index y).before a0 Z = true) (w2 : (Jvm.Cond.instanceMethod y).before a0 Z = true) (w3 : (Jvm.Cond.initialized y.cls).before a0 Z = true) (w4 : (Jvm.Cond.code y bytes maxL none).before a0 Z = true) (hy : y.cls ≠ "java/lang/invoke/MethodHandle" ∧ y.cls ≠ "java/lang/invoke/VarHandle")
    {rm : Room} {Q : Option Value → Heap → List Loc → Prop} {b : Addr} {argsL rest : List Value} (hM : Con l Z y bytes maxL none [] rm rm.cells rm.slots (.ref b :: argsL).toArray h Q) (W : Nat) (hf : rm.frames + 1 ≤ R.frames) (hl : W + (maxL + 11) + rm.locals ≤ R.locals) (hcl : cells + rm.cells ≤ R.cells) (hsl : slots + rm.slots ≤ R.slots) (eT : T.heap = h)
    {pc : Nat} {Ls : Array Slot} {st : List Value} (hsz : Ls.size = c.maxLocals) {ps : List FieldType} {r' : Option FieldType} (hds : parseMethodDescriptor y.desc = some ⟨ps, r'⟩) (hlen : argsL.length = ps.length) (hst : st = argsL.reverse ++ .ref b :: rest) (hW : 2 * 0 + (rest.map fun v => v.category).sum ≤ W) (hd : decode c.code pc = .ok (.invokespecial index, 3))
    (k : ∀ (v : Option Value) (T' : State) (L : List Loc), Stand p l e R s m args below meth c T' (locs ++ L) (cells + rm.cells) (slots + rm.slots) → Q v T'.heap L → Gl p e below G (T'.setTop (mkF m (pc + 3) Ls (v.toList ++ rest)))) : Gl p e below G (T.setTop (mkF m pc Ls st)) := by
  obtain ⟨v, _, ⟨T', L', k', n'⟩, -, X', ⟨Lc, hQ, l1, y1, z1⟩, stp⟩ := X.specialBack hx (y := y) hy1 hown (mvT hZ w1) (mvT hZ w2) (mvT hZ w4) hy (backOf (W := W) hM hZ w4 w3 hf hl) (g := mkF m pc Ls st) rfl hsz (Steps.refl _) (a := b) (argsL := argsL) (rest := rest) (lenOf hds hlen) hst hW hd (fun _ _ => ⟨rfl, eT, hcl, hsl⟩)
  dsimp only [Pt.U, Pt.locs, Pt.cells, Pt.slots] at X' l1 y1 z1 stp hQ
  subst l1 y1 z1
  exact Gl.of (fun t q => stp.trans q) (k v T' Lc X' hQ)
theorem Gl.callI0 {G : State → Outcome → Prop} (X : Stand p l e R s m args below meth c T locs cells slots) (hx : p.tables.exec = Jvm.exec) (hZ : Z.Warmed39 s.vm) {own : String} {index : Nat} {y : MethodName} {bytes : ByteArray} {maxL : Nat} (hy1 : y.name = "<init>") (hown : s.vm.findClass own = some m.cls)
    (w1 : (Jvm.Cond.methodLink own index y).before a0 Z = true) (w2 : (Jvm.Cond.instanceMethod y).before a0 Z = true) (w3 : (Jvm.Cond.initialized y.cls).before a0 Z = true) (w4 : (Jvm.Cond.code y bytes maxL none).before a0 Z = true) (hy : y.cls ≠ "java/lang/invoke/MethodHandle" ∧ y.cls ≠ "java/lang/invoke/VarHandle")
    {fr lo : Nat} {F : Option Value → Prop} {b : Addr} {argsL rest : List Value} (hM : Con l Z y bytes maxL none [] ({ frames := fr, cells := 0, slots := 0, locals := lo } : Room) 0 0 (.ref b :: argsL).toArray h (Pur F h)) (W : Nat) (hf : fr + 1 ≤ R.frames) (hl : W + (maxL + 11) + lo ≤ R.locals) (eT : T.heap = h)
    {pc : Nat} {Ls : Array Slot} {st : List Value} (hsz : Ls.size = c.maxLocals) {ps : List FieldType} {r' : Option FieldType} (hds : parseMethodDescriptor y.desc = some ⟨ps, r'⟩) (hlen : argsL.length = ps.length) (hst : st = argsL.reverse ++ .ref b :: rest) (hW : 2 * 0 + (rest.map fun v => v.category).sum ≤ W) (hd : decode c.code pc = .ok (.invokespecial index, 3)) (hcl : cells ≤ R.cells) (hsl : slots ≤ R.slots)
    (k : ∀ (v : Option Value) (T' : State), Stand p l e R s m args below meth c T' locs cells slots → T'.heap = h → F v → Gl p e below G (T'.setTop (mkF m (pc + 3) Ls (v.toList ++ rest)))) : Gl p e below G (T.setTop (mkF m pc Ls st)) := by
  refine Gl.callI X hx hZ hy1 hown w1 w2 w3 w4 hy hM W hf hl hcl hsl eT hsz hds hlen hst hW hd ?_
  intro v T' L X' hQ
  obtain ⟨q1, q2, rfl⟩ := hQ
  rw [List.append_nil] at X'
  exact k v T' X' q2 q1
/-- a constructor, by a Back -/
theorem Gl.callIB {G : State → Outcome → Prop} (X : Stand p l e R s m args below meth c T locs cells slots) (hx : p.tables.exec = Jvm.exec) (hZ : Z.Warmed39 s.vm) {own : String} {index : Nat} {y : MethodName} {bytes : ByteArray} {maxL : Nat} (hy1 : y.name = "<init>") (hown : s.vm.findClass own = some m.cls)
    (w1 : (Jvm.Cond.methodLink own index y).before a0 Z = true) (w2 : (Jvm.Cond.instanceMethod y).before a0 Z = true) (w4 : (Jvm.Cond.code y bytes maxL none).before a0 Z = true) (hy : y.cls ≠ "java/lang/invoke/MethodHandle" ∧ y.cls ≠ "java/lang/invoke/VarHandle")
    {C N W : Nat} (Q : Option Value → Heap → List Loc → Prop) {b : Addr} {argsL rest : List Value} (hK : Back l R p e below s args y 3 W (fun A a => a = (Value.ref b :: argsL).toArray ∧ A.U.heap = h ∧ A.cells + C ≤ R.cells ∧ A.slots + N ≤ R.slots) (fun A _ v B => ∃ L, Q v B.U.heap L ∧ B.locs = A.locs ++ L ∧ B.cells = A.cells + C ∧ B.slots = A.slots + N)) (hcl : cells + C ≤ R.cells) (hsl : slots + N ≤ R.slots) (eT : T.heap = h)
    {pc : Nat} {Ls : Array Slot} {st : List Value} (hsz : Ls.size = c.maxLocals) {ps : List FieldType} {r' : Option FieldType} (hds : parseMethodDescriptor y.desc = some ⟨ps, r'⟩) (hlen : argsL.length = ps.length) (hst : st = argsL.reverse ++ .ref b :: rest) (hW : 2 * 0 + (rest.map fun v => v.category).sum ≤ W) (hd : decode c.code pc = .ok (.invokespecial index, 3))
    (k : ∀ (v : Option Value) (T' : State) (L : List Loc), Stand p l e R s m args below meth c T' (locs ++ L) (cells + C) (slots + N) → Q v T'.heap L → Gl p e below G (T'.setTop (mkF m (pc + 3) Ls (v.toList ++ rest)))) : Gl p e below G (T.setTop (mkF m pc Ls st)) := by
  obtain ⟨v, _, ⟨T', L', k', n'⟩, -, X', ⟨Lc, hQ, l1, y1, z1⟩, stp⟩ := X.specialBack hx (y := y) hy1 hown (mvT hZ w1) (mvT hZ w2) (mvT hZ w4) hy hK (g := mkF m pc Ls st) rfl hsz (Steps.refl _) (a := b) (argsL := argsL) (rest := rest) (lenOf hds hlen) hst hW hd (fun _ _ => ⟨rfl, eT, hcl, hsl⟩)
  dsimp only [Pt.U, Pt.locs, Pt.cells, Pt.slots] at X' l1 y1 z1 stp hQ
  subst l1 y1 z1
  exact Gl.of (fun t q => stp.trans q) (k v T' Lc X' hQ)
/-- an instance method that writes and makes nothing, by a Back -/
theorem Gl.callVB {G : State → Outcome → Prop} (X : Stand p l e R s m args below meth c T locs cells slots) (hx : p.tables.exec = Jvm.exec) (hZ : Z.Warmed39 s.vm) {own C : String} {index : Nat} {y z : MethodName} (hown : s.vm.findClass own = some m.cls)
    (w1 : (Jvm.Cond.methodLink own index y).before a0 Z = true) (w2 : (Jvm.Cond.declares y).before a0 Z = true) (nf : NotFace s y) (w3 : (Jvm.Cond.selects C y z).before a0 Z = true) (w4 : (Jvm.Cond.instanceMethod z).before a0 Z = true) (hy : y.cls ≠ "java/lang/invoke/MethodHandle" ∧ y.cls ≠ "java/lang/invoke/VarHandle")
    {W : Nat} (F : Option Value → Prop) {b : Addr} {argsL rest : List Value} (hE : Exa Z h b C) (hK : Back l R p e below s args z 3 W (fun A a => a = (Value.ref b :: argsL).toArray ∧ A.U.heap = h ∧ A.cells + 0 ≤ R.cells ∧ A.slots + 0 ≤ R.slots) (fun A _ v B => ∃ L, (F v ∧ L = [] ∧ B.U.heap = h) ∧ B.locs = A.locs ++ L ∧ B.cells = A.cells + 0 ∧ B.slots = A.slots + 0)) (hcl : cells ≤ R.cells) (hsl : slots ≤ R.slots) (eT : T.heap = h)
    {pc : Nat} {Ls : Array Slot} {st : List Value} (hsz : Ls.size = c.maxLocals) {ps : List FieldType} {r' : Option FieldType} (hds : parseMethodDescriptor y.desc = some ⟨ps, r'⟩) (hlen : argsL.length = ps.length) (hst : st = argsL.reverse ++ .ref b :: rest) (hW : 2 * 0 + (rest.map fun v => v.category).sum ≤ W) (hd : decode c.code pc = .ok (.invokevirtual index, 3))
    (k : ∀ (v : Option Value) (T' : State), Stand p l e R s m args below meth c T' locs cells slots → T'.heap = h → F v → Gl p e below G (T'.setTop (mkF m (pc + 3) Ls (v.toList ++ rest)))) : Gl p e below G (T.setTop (mkF m pc Ls st)) := by
  obtain ⟨cq, kq, qa, qb, qc⟩ := isOf hZ eT hE
  obtain ⟨v, _, ⟨T', L', k', n'⟩, -, X', ⟨Lc, ⟨hF, hL, hH⟩, l1, y1, z1⟩, stp⟩ := X.virtualBack hx (y := y) (z := z) hown (mvT hZ w1) (mvT hZ w2) nf (mvT hZ w3) (mvT hZ w4) hy hK qa qc (g := mkF m pc Ls st) rfl hsz (Steps.refl _) (argsL := argsL) (rest := rest) (lenOf hds hlen) hst hW hd (fun _ _ => ⟨rfl, eT, hcl, hsl⟩)
  dsimp only [Pt.U, Pt.locs, Pt.cells, Pt.slots] at X' l1 y1 z1 stp hH
  subst l1 y1 z1 hL
  rw [List.append_nil] at X'
  exact Gl.of (fun t q => stp.trans q) (k v T' X' hH hF)
/-- a static call of a callee that may intern -/
theorem Gl.callSW {G : State → Outcome → Prop} {vm0 : Vm} {k0 : Nat} (X : Stand p l e R (s.setVm vm0) m args below meth c T locs cells slots) (hx : p.tables.exec = Jvm.exec) (hZ : Z.Warmed39 (s.setVm vm0).vm) (hS : s.Since vm0 k0) (hk : k0 ≤ h.size) {own : String} {index : Nat} {y : MethodName} {bytes : ByteArray} {maxL : Nat} {rt : Option FieldType} (hown : (s.setVm vm0).vm.findClass own = some m.cls)
    (w1 : (Jvm.Cond.methodLink own index y).before a0 Z = true) (w2 : (Jvm.Cond.static y).before a0 Z = true) (w3 : (Jvm.Cond.initialized y.cls).before a0 Z = true) (w4 : (Jvm.Cond.code y bytes maxL rt).before a0 Z = true) (hy : y.cls ≠ "java/lang/invoke/MethodHandle" ∧ y.cls ≠ "java/lang/invoke/VarHandle")
    {rm : Room} {Q : Option Value → Heap → List Loc → Prop} {argsL rest : List Value} (hM : ConW l Z y bytes maxL rt [] rm rm.cells rm.slots argsL.toArray h Q) (W : Nat) (hf : rm.frames + 1 ≤ R.frames) (hl : W + (maxL + 11) + rm.locals ≤ R.locals) (hcl : cells + rm.cells ≤ R.cells) (hsl : slots + rm.slots ≤ R.slots) (eT : T.heap = h)
    {pc : Nat} {Ls : Array Slot} {st : List Value} (hsz : Ls.size = c.maxLocals) {ps : List FieldType} {r' : Option FieldType} (hds : parseMethodDescriptor y.desc = some ⟨ps, r'⟩) (hlen : argsL.length = ps.length) (hst : st = argsL.reverse ++ rest) (hW : 2 * 0 + (rest.map fun v => v.category).sum ≤ W) (hd : decode c.code pc = .ok (.invokestatic index, 3))
    (k : ∀ (v : Option Value) (T' : State) (L : List Loc), Stand p l e R (s.setVm T'.vm) m args below meth c T' (locs ++ L) (cells + rm.cells) (slots + rm.slots) → s.Since T'.vm T'.heap.size → Z.Warmed39 (s.setVm T'.vm).vm → (s.setVm T'.vm).vm.findClass own = some m.cls → Q v T'.heap L → Gl p e below G (T'.setTop (mkF m (pc + 3) Ls (v.toList ++ rest)))) : Gl p e below G (T.setTop (mkF m pc Ls st)) := by
  obtain ⟨v, _, ⟨T', L', k', n'⟩, -, X', hS', hg', ⟨Lc, hQ, l1, y1, z1⟩, stp⟩ := callSS X hx (y := y) hown (mvT hZ w1) (mvT hZ w2) (mvT hZ w3) (mvT hZ w4) hy (backOfS (W := W) hM hZ w4 w3 hf hl) (g := mkF m pc Ls st) rfl hsz (argsL := argsL) (rest := rest) (lenOf hds hlen) hst hW hd (fun _ _ => ⟨rfl, eT, hcl, hsl⟩)
  dsimp only [Pt.U, Pt.locs, Pt.cells, Pt.slots] at X' l1 y1 z1 stp hQ hS' hg'
  subst l1 y1 z1
  rw [eT] at hg'
  obtain ⟨q1, q2, q3, q4⟩ := rebS hS hk X' hS' hg' hZ hown
  exact Gl.of (fun t q => stp.trans q) (k v T' Lc q1 q2 q3 q4 hQ)
/-- a constructor that may intern -/
theorem Gl.callIW {G : State → Outcome → Prop} {vm0 : Vm} {k0 : Nat} (X : Stand p l e R (s.setVm vm0) m args below meth c T locs cells slots) (hx : p.tables.exec = Jvm.exec) (hZ : Z.Warmed39 (s.setVm vm0).vm) (hS : s.Since vm0 k0) (hk : k0 ≤ h.size) {own : String} {index : Nat} {y : MethodName} {bytes : ByteArray} {maxL : Nat} (hy1 : y.name = "<init>") (hown : (s.setVm vm0).vm.findClass own = some m.cls)
    (w1 : (Jvm.Cond.methodLink own index y).before a0 Z = true) (w2 : (Jvm.Cond.instanceMethod y).before a0 Z = true) (w3 : (Jvm.Cond.initialized y.cls).before a0 Z = true) (w4 : (Jvm.Cond.code y bytes maxL none).before a0 Z = true) (hy : y.cls ≠ "java/lang/invoke/MethodHandle" ∧ y.cls ≠ "java/lang/invoke/VarHandle")
    {rm : Room} {Q : Option Value → Heap → List Loc → Prop} {b : Addr} {argsL rest : List Value} (hM : ConW l Z y bytes maxL none [] rm rm.cells rm.slots (Value.ref b :: argsL).toArray h Q) (W : Nat) (hf : rm.frames + 1 ≤ R.frames) (hl : W + (maxL + 11) + rm.locals ≤ R.locals) (hcl : cells + rm.cells ≤ R.cells) (hsl : slots + rm.slots ≤ R.slots) (eT : T.heap = h)
    {pc : Nat} {Ls : Array Slot} {st : List Value} (hsz : Ls.size = c.maxLocals) {ps : List FieldType} {r' : Option FieldType} (hds : parseMethodDescriptor y.desc = some ⟨ps, r'⟩) (hlen : argsL.length = ps.length) (hst : st = argsL.reverse ++ .ref b :: rest) (hW : 2 * 0 + (rest.map fun v => v.category).sum ≤ W) (hd : decode c.code pc = .ok (.invokespecial index, 3))
    (k : ∀ (v : Option Value) (T' : State) (L : List Loc), Stand p l e R (s.setVm T'.vm) m args below meth c T' (locs ++ L) (cells + rm.cells) (slots + rm.slots) → s.Since T'.vm T'.heap.size → Z.Warmed39 (s.setVm T'.vm).vm → (s.setVm T'.vm).vm.findClass own = some m.cls → Q v T'.heap L → Gl p e below G (T'.setTop (mkF m (pc + 3) Ls (v.toList ++ rest)))) : Gl p e below G (T.setTop (mkF m pc Ls st)) := by
  obtain ⟨v, _, ⟨T', L', k', n'⟩, -, X', hS', hg', ⟨Lc, hQ, l1, y1, z1⟩, stp⟩ := X.specialBackS hx (y := y) hy1 hown (mvT hZ w1) (mvT hZ w2) (mvT hZ w4) hy (backOfS (W := W) hM hZ w4 w3 hf hl) (g := mkF m pc Ls st) rfl hsz (Steps.refl _) (a := b) (argsL := argsL) (rest := rest) (lenOf hds hlen) hst hW hd (fun _ _ => ⟨rfl, eT, hcl, hsl⟩)
  dsimp only [Pt.U, Pt.locs, Pt.cells, Pt.slots] at X' l1 y1 z1 stp hQ hS' hg'
  subst l1 y1 z1
  rw [eT] at hg'
  obtain ⟨q1, q2, q3, q4⟩ := rebS hS hk X' hS' hg' hZ hown
  exact Gl.of (fun t q => stp.trans q) (k v T' Lc q1 q2 q3 q4 hQ)
/-- an instance method that may intern -/
theorem Gl.callVW {G : State → Outcome → Prop} {vm0 : Vm} {k0 : Nat} (X : Stand p l e R (s.setVm vm0) m args below meth c T locs cells slots) (hx : p.tables.exec = Jvm.exec) (hZ : Z.Warmed39 (s.setVm vm0).vm) (hS : s.Since vm0 k0) (hk : k0 ≤ h.size) {own C : String} {index : Nat} {y z : MethodName} {bytes : ByteArray} {maxL : Nat} {rt : Option FieldType} (hown : (s.setVm vm0).vm.findClass own = some m.cls)
    (w1 : (Jvm.Cond.methodLink own index y).before a0 Z = true) (w2 : (Jvm.Cond.declares y).before a0 Z = true) (nf : NotFace (s.setVm vm0) y) (w5 : (Jvm.Cond.selects C y z).before a0 Z = true) (w6 : (Jvm.Cond.instanceMethod z).before a0 Z = true) (w4 : (Jvm.Cond.code z bytes maxL rt).before a0 Z = true) (w3 : (Jvm.Cond.initialized z.cls).before a0 Z = true) (hy : y.cls ≠ "java/lang/invoke/MethodHandle" ∧ y.cls ≠ "java/lang/invoke/VarHandle")
    {rm : Room} {Q : Option Value → Heap → List Loc → Prop} {b : Addr} {argsL rest : List Value} (hE : Exa Z h b C) (hM : ConW l Z z bytes maxL rt [] rm rm.cells rm.slots (Value.ref b :: argsL).toArray h Q) (W : Nat) (hf : rm.frames + 1 ≤ R.frames) (hl : W + (maxL + 11) + rm.locals ≤ R.locals) (hcl : cells + rm.cells ≤ R.cells) (hsl : slots + rm.slots ≤ R.slots) (eT : T.heap = h)
    {pc : Nat} {Ls : Array Slot} {st : List Value} (hsz : Ls.size = c.maxLocals) {ps : List FieldType} {r' : Option FieldType} (hds : parseMethodDescriptor y.desc = some ⟨ps, r'⟩) (hlen : argsL.length = ps.length) (hst : st = argsL.reverse ++ .ref b :: rest) (hW : 2 * 0 + (rest.map fun v => v.category).sum ≤ W) (hd : decode c.code pc = .ok (.invokevirtual index, 3))
    (k : ∀ (v : Option Value) (T' : State) (L : List Loc), Stand p l e R (s.setVm T'.vm) m args below meth c T' (locs ++ L) (cells + rm.cells) (slots + rm.slots) → s.Since T'.vm T'.heap.size → Z.Warmed39 (s.setVm T'.vm).vm → (s.setVm T'.vm).vm.findClass own = some m.cls → Q v T'.heap L → Gl p e below G (T'.setTop (mkF m (pc + 3) Ls (v.toList ++ rest)))) : Gl p e below G (T.setTop (mkF m pc Ls st)) := by
  obtain ⟨cq, kq, qa, qb, qc⟩ := isOf hZ eT hE
  obtain ⟨v, _, ⟨T', L', k', n'⟩, -, X', hS', hg', ⟨Lc, hQ, l1, y1, z1⟩, stp⟩ := X.virtualBackS hx (y := y) (z := z) hown (mvT hZ w1) (mvT hZ w2) nf (mvT hZ w5) (mvT hZ w6) hy (backOfS (W := W) hM hZ w4 w3 hf hl) qa qc (g := mkF m pc Ls st) rfl hsz (Steps.refl _) (argsL := argsL) (rest := rest) (lenOf hds hlen) hst hW hd (fun _ _ => ⟨rfl, eT, hcl, hsl⟩)
  dsimp only [Pt.U, Pt.locs, Pt.cells, Pt.slots] at X' l1 y1 z1 stp hQ hS' hg'
  subst l1 y1 z1
  rw [eT] at hg'
  obtain ⟨q1, q2, q3, q4⟩ := rebS hS hk X' hS' hg' hZ hown
  exact Gl.of (fun t q => stp.trans q) (k v T' Lc q1 q2 q3 q4 hQ)
theorem nf_same {y y' : MethodName} {C : String} (hc : y'.cls = y.cls) (w : (Jvm.Cond.selects C y y).before args s = true) : NotFace s y' := fun r0 h0 => by
  obtain ⟨c2, r2, m2, q1, q2, q3, q4, kP, hkP, hkPi⟩ := Cond.selects_spec w
  have a := findClass_of_methodNamed h0
  rw [hc] at a
  have b := Option.some.inj (a.symm.trans (findClass_of_methodNamed q3))
  exact ⟨kP, by rw [b]; exact hkP, hkPi⟩
theorem fld_ne {a b : Addr} {C n d : String} {v w : Value} (F : Fld Z h a C n d v) (G : Fld Z h b C n d w) (hn : v ≠ w) : ¬ a = b := fun e => by
  subst e
  obtain ⟨c1, cf, k, i, f, h1, h2, -, -, -, -, h7⟩ := F
  obtain ⟨c2, cf', k', i', f', g1, g2, -, -, -, -, g7⟩ := G
  cases h1.symm.trans g1
  cases h2.symm.trans g2
  exact hn (Option.some.inj (h7.symm.trans g7))
theorem own_nb1 : nar .boolean 1 = 1 := rfl
theorem own_nb0 : nar .boolean 0 = 0 := rfl
/-- the words of a case: an equation with an int -/
theorem eq_at {args : Array Value} {s : State} {t : Term} {idx : List Nat} {z : Int32} (h : (Jvm.Cond.eq t (.int z)).value args s none s idx = some true) : t.eval args s none idx s = some (.int z) := by
  obtain ⟨x, y', e1, e2, k1, k2⟩ := cmp_v (Or.inl h)
  cases (Term.int_eval z).symm.trans e2
  obtain ⟨z', rfl⟩ : ∃ z', x = .int z' := k2
  exact e1.trans (congrArg (fun z => some (Value.int z)) (gotT (Cond.eq_ints e1 (Term.int_eval z)) h))
theorem eqR_at {args : Array Value} {s : State} {t u : Term} {idx : List Nat} {a : Addr} (h : (Jvm.Cond.eq t u).value args s none s idx = some true) (hu : u.eval args s none idx s = some (.ref a)) : t.eval args s none idx s = some (.ref a) := by
  obtain ⟨x, y', e1, e2, k1, k2⟩ := cmp_v (Or.inl h)
  cases hu.symm.trans e2
  have hx : x.isRef = true := k2.2
  have q := gotT (eq_R e1 hu hx rfl) h
  rw [q] at e1
  exact e1
theorem len_at {args : Array Value} {s : State} {t : Term} {z : Int32} {a : Addr} {cl : Cell} (h : (Term.length t).eval args s none [] s = some (.int z)) (ht : t.eval args s none [] s = some (.ref a)) (ha : s.arrayAt? a = some cl) : cl.slots.size.toInt32 = z ∧ cl.slots.size < 2 ^ 31 := by
  by_cases q : cl.slots.size < 2 ^ 31
  · rw [len_f ht ha q] at h
    cases h
    exact ⟨rfl, q⟩
  · simp [Term.eval, ht, ha, q] at h
theorem len_sz {n : Nat} {z : Int32} (h : n.toInt32 = z) (q : n < 2 ^ 31) : n = z.toNatClampNeg := by
  rw [← h]; simp only [Int32.toNatClampNeg, len_toInt q]; rfl
end Own
theorem own_str {Z : State} {a0 : Array Value} (hw : ∀ d ∈ tables_1, d.before a0 Z = true) : ∀ a ∈ Bundle.stringAtoms, a.before a0 Z = true := fun d hd => hw d ((by decide +kernel : ∀ d ∈ Bundle.stringAtoms, d ∈ tables_1) d hd)
def Strg (Z : State) (h : Heap) (x t : Addr) (kb : ClassId) (cs : List Int32) : Prop := Exa Z h x "java/lang/String" ∧ Fld Z h x "java/lang/String" "value" "[B" (.ref t) ∧ Fld Z h x "java/lang/String" "coder" "B" (.int 0) ∧ Arv Z h t kb .byte (Int32.ofNat cs.length) ((cs.map (fun c => c.toInt8.toInt32)).map Value.int) (.int 0) ∧ (∀ c ∈ cs, ¬ c < 0 ∧ ¬ (255 : Int32) < c) ∧ cs.length ≤ 4000
theorem Strg.ext {Z : State} {h h' : Heap} {x t : Addr} {kb : ClassId} {cs : List Int32} (G : Strg Z h x t kb cs) (E : Ext h h') : Strg Z h' x t kb cs := ⟨G.1.ext E, G.2.1.ext E, G.2.2.1.ext E, G.2.2.2.1.ext E, G.2.2.2.2⟩
theorem Strg.keep {Z : State} {h h' : Heap} {x t : Addr} {kb : ClassId} {cs : List Int32} {ws : List Addr} (G : Strg Z h x t kb cs) (K : Keep h h' ws) (q : x ∉ ws) (q' : t ∉ ws) : Strg Z h' x t kb cs := ⟨G.1.keep K, G.2.1.keep K q, G.2.2.1.keep K q, G.2.2.2.1.keep K q', G.2.2.2.2⟩
theorem Strg.wr {Z : State} {h h' : Heap} {x t a : Addr} {sl : Nat} {v : Value} {kb : ClassId} {cs : List Int32} (G : Strg Z h x t kb cs) (W : Wr h h' a sl v) (q : x ≠ a) (q' : t ≠ a) : Strg Z h' x t kb cs := ⟨G.1.wr W, G.2.1.other W (Or.inl q), G.2.2.1.other W (Or.inl q), G.2.2.2.1.other W q', G.2.2.2.2⟩
theorem Strg.lt {Z : State} {h : Heap} {x t : Addr} {kb : ClassId} {cs : List Int32} (G : Strg Z h x t kb cs) : x < h.size := G.1.lt
theorem Strg.lt' {Z : State} {h : Heap} {x t : Addr} {kb : ClassId} {cs : List Int32} (G : Strg Z h x t kb cs) : t < h.size := G.2.2.2.1.lt
section OwnH
variable {p : Program} {l : Launch} {e : Env} {R : Room} {s : State} {m : MethodId} {args : Array Value} {below : List Frame} {meth : Method} {c : Code} {T : State} {locs : List Loc} {cells slots : Nat} {Z : State} {a0 : Array Value} {h : Heap}
variable {EL : List (String × Nat)}
def GdH (Z : State) (EL : List (String × Nat)) (s : State) (Q : Option Value → Heap → List Loc → Prop) (C N : Nat) (t : State) (o : Outcome) : Prop := ∃ v L, o = .returned v ∧ Q v t.heap L ∧ CHr Z EL s.vm s.heap t.vm t.heap ∧ ReturnedEndW s o t L C N
def ConH (l : Launch) (Z : State) (EL : List (String × Nat)) (y : MethodName) (bytes : ByteArray) (maxL : Nat) (rt : Option FieldType) (ws : List Jvm.Cond) (rm : Room) (C N : Nat) (as : Array Value) (h : Heap) (Q : Option Value → Heap → List Loc → Prop) : Prop :=
  MetFree l y (head1 (Jvm.Cond.code y bytes maxL rt :: ws) rm) (fun a U => a = as ∧ Z.Warmed39 U.vm ∧ U.heap = h ∧ CHv Z EL U.vm h) (fun _ _ _ _ _ => True) (fun _ U o U' => ∃ v L, o = .returned v ∧ Q v U'.heap L ∧ CHr Z EL U.vm U.heap U'.vm U'.heap ∧ ReturnedEndW U o U' L C N)
theorem ConH.intro {y : MethodName} {bytes : ByteArray} {maxL : Nat} {rt : Option FieldType} {ws : List Jvm.Cond} {rm : Room} {C N : Nat} {as : Array Value} {Q : Option Value → Heap → List Loc → Prop} (hp : plainFor y = true)
    (body : ∀ p e s m below meth c s₁, Stand p l e rm s m as below meth c s₁ [] 0 0 → p.tables.exec = Jvm.exec → c.code = bytes → c.maxLocals = maxL → Z.Warmed39 s.vm → s.vm.findClass y.cls = some m.cls → meth.name = y.name → meth.sig.returnType = rt → meth.locks = false → s₁.heap = h → s.heap = h → CHr Z EL s.vm s.heap s.vm h →
      Gl p e below (GdH Z EL s Q C N) (s₁.setTop (entryFrame m as maxL))) : ConH l Z EL y bytes maxL rt ws rm C N as h Q := by
  refine MetFree.of_bodySF hp hisR ?_
  intro p e s m args below meth c s₁ Bd hml0 hP hK
  obtain ⟨rfl, hZ, hh, hC⟩ := hP
  exact body p e s m below meth c s₁ (Stand.of_body Bd) Bd.exec Bd.bytes hml0 hZ (findClass_of_methodNamed Bd.named) (name_of_methodNamed Bd.named Bd.method).1 Bd.returns (BodyLoose.notSynchronized Bd) (by rw [← hh, Bd.state]; rfl) hh (by rw [hh]; exact CHr.refl hC)
theorem Gl.leafH {Q : Option Value → Heap → List Loc → Prop} {C N n : Nat} {vm₁ : Vm} (X : Stand p l e R (s.setVm vm₁) m args below meth c T locs cells slots) (hlk : meth.locks = false) {v : Option Value} (hv : meth.sig.returnType = none → v = none) {S : State}
    (st : ∀ fs, (∀ (f : JFrame) (acts : List Action), f.method = m → f.locked = none → f.entered = [] → (doReturn e (T.setTop f) acts v).1 = T.setFrames fs) → Steps p.tables e below S (T.setFrames fs)) (eT : T.heap = h) (hQ : Q v h locs) (hS : s.Since vm₁ n) (hn : n ≤ h.size) (hZ : Z.Warmed39 vm₁) (hEL : EW Z a0 EL) (hR : CHr Z EL s.vm s.heap vm₁ h) (hC : cells ≤ C) (hN : slots ≤ N) : Gl p e below (GdH Z EL s Q C N) S := by
  obtain ⟨fs, hr, hrun, hended, hW⟩ := X.leaveW hS (by rw [eT]; exact hn) (v := v) hv hlk
  exact ⟨_, _, st fs hr, hrun, hended, v, locs, rfl, by show Q v T.heap locs; rw [eT]; exact hQ, by show CHr Z EL s.vm s.heap T.vm T.heap; rw [eT]; exact hR.trans (CHv.at X hZ hEL hR.1), hW.1, hW.2.1, hW.2.2.1, hW.2.2.2.mono hC hN⟩
theorem Gl.retNH {Q : Option Value → Heap → List Loc → Prop} {C N n : Nat} {vm₁ : Vm} (X : Stand p l e R (s.setVm vm₁) m args below meth c T locs cells slots) (hx : p.tables.exec = Jvm.exec) (hlk : meth.locks = false) {t : FieldType} (hret : meth.sig.returnType = some t) (ht : t = .boolean ∨ t = .byte ∨ t = .char ∨ t = .short) {pc : Nat} {Ls : Array Slot} {z : Int32} {rest : List Value} (hd : decode c.code pc = .ok (.ireturn, 1))
    (eT : T.heap = h) (hQ : Q (some (.int (nar t z))) h locs) (hS : s.Since vm₁ n) (hn : n ≤ h.size) (hZ : Z.Warmed39 vm₁) (hEL : EW Z a0 EL) (hR : CHr Z EL s.vm s.heap vm₁ h) (hC : cells ≤ C) (hN : slots ≤ N) : Gl p e below (GdH Z EL s Q C N) (T.setTop (mkF m pc Ls (.int z :: rest))) :=
  Gl.leafH X hlk (fun q => by rw [hret] at q; cases q) (fun fs hr => Jvm.RoadKit.retN X hx hret ht hd hr) eT hQ hS hn hZ hEL hR hC hN
theorem Gl.retRH {Q : Option Value → Heap → List Loc → Prop} {C N n : Nat} {vm₁ : Vm} (X : Stand p l e R (s.setVm vm₁) m args below meth c T locs cells slots) (hx : p.tables.exec = Jvm.exec) (hlk : meth.locks = false) {t : FieldType} (hret : meth.sig.returnType = some t) (ht : t.isReference = true) {pc : Nat} {Ls : Array Slot} {w : Value} (hw : w.isRef = true) {rest : List Value} (hd : decode c.code pc = .ok (.areturn, 1))
    (eT : T.heap = h) (hQ : Q (some w) h locs) (hS : s.Since vm₁ n) (hn : n ≤ h.size) (hZ : Z.Warmed39 vm₁) (hEL : EW Z a0 EL) (hR : CHr Z EL s.vm s.heap vm₁ h) (hC : cells ≤ C) (hN : slots ≤ N) : Gl p e below (GdH Z EL s Q C N) (T.setTop (mkF m pc Ls (w :: rest))) :=
  Gl.leafH X hlk (fun q => by rw [hret] at q; cases q) (fun fs hr => retOut X hx hret (by cases t <;> first | (cases ht; done) | (rcases ref_cases hw with rfl | ⟨_, rfl⟩ <;> rfl)) (Or.inr (Or.inr (Or.inr (Or.inr ⟨rfl, ht, hw⟩)))) hd hr) eT hQ hS hn hZ hEL hR hC hN
theorem Gl.ret0H {Q : Option Value → Heap → List Loc → Prop} {C N n : Nat} {vm₁ : Vm} (X : Stand p l e R (s.setVm vm₁) m args below meth c T locs cells slots) (hx : p.tables.exec = Jvm.exec) (hlk : meth.locks = false) (hret : meth.sig.returnType = none) {pc : Nat} {Ls : Array Slot} (hd : decode c.code pc = .ok (.return_, 1))
    (eT : T.heap = h) (hQ : Q none h locs) (hS : s.Since vm₁ n) (hn : n ≤ h.size) (hZ : Z.Warmed39 vm₁) (hEL : EW Z a0 EL) (hR : CHr Z EL s.vm s.heap vm₁ h) (hC : cells ≤ C) (hN : slots ≤ N) : Gl p e below (GdH Z EL s Q C N) (T.setTop (mkF m pc Ls [])) :=
  Gl.leafH X hlk (fun _ => rfl) (fun fs hr => X.returnOut hx hret hd hr) eT hQ hS hn hZ hEL hR hC hN
theorem Gl.callSH {G : State → Outcome → Prop} {vm0 : Vm} {k0 : Nat} (X : Stand p l e R (s.setVm vm0) m args below meth c T locs cells slots) (hx : p.tables.exec = Jvm.exec) (hZ : Z.Warmed39 (s.setVm vm0).vm) (hS : s.Since vm0 k0) (hk : k0 ≤ h.size) {vmS : Vm} {hh0 : Heap} (hEL : EW Z a0 EL) (hR : CHr Z EL vmS hh0 vm0 h) {own : String} {index : Nat} {y : MethodName} {bytes : ByteArray} {maxL : Nat} {rt : Option FieldType} (hown : (s.setVm vm0).vm.findClass own = some m.cls)
    (w1 : (Jvm.Cond.methodLink own index y).before a0 Z = true) (w2 : (Jvm.Cond.static y).before a0 Z = true) (w3 : (Jvm.Cond.initialized y.cls).before a0 Z = true) (w4 : (Jvm.Cond.code y bytes maxL rt).before a0 Z = true) (hy : y.cls ≠ "java/lang/invoke/MethodHandle" ∧ y.cls ≠ "java/lang/invoke/VarHandle")
    {rm : Room} {Q : Option Value → Heap → List Loc → Prop} {argsL rest : List Value} (hM : ConH l Z EL y bytes maxL rt [] rm rm.cells rm.slots argsL.toArray h Q) (W : Nat) (hf : rm.frames + 1 ≤ R.frames) (hl : W + (maxL + 11) + rm.locals ≤ R.locals) (hcl : cells + rm.cells ≤ R.cells) (hsl : slots + rm.slots ≤ R.slots) (eT : T.heap = h)
    {pc : Nat} {Ls : Array Slot} {st : List Value} (hsz : Ls.size = c.maxLocals) {ps : List FieldType} {r' : Option FieldType} (hds : parseMethodDescriptor y.desc = some ⟨ps, r'⟩) (hlen : argsL.length = ps.length) (hst : st = argsL.reverse ++ rest) (hW : 2 * 0 + (rest.map fun v => v.category).sum ≤ W) (hd : decode c.code pc = .ok (.invokestatic index, 3))
    (k : ∀ (v : Option Value) (T' : State) (L : List Loc), Stand p l e R (s.setVm T'.vm) m args below meth c T' (locs ++ L) (cells + rm.cells) (slots + rm.slots) → s.Since T'.vm T'.heap.size → Z.Warmed39 (s.setVm T'.vm).vm → (s.setVm T'.vm).vm.findClass own = some m.cls → Q v T'.heap L → CHr Z EL vmS hh0 T'.vm T'.heap → Gl p e below G (T'.setTop (mkF m (pc + 3) Ls (v.toList ++ rest)))) : Gl p e below G (T.setTop (mkF m pc Ls st)) := by
  obtain ⟨v, _, ⟨T', L', k', n'⟩, -, X', hS', hg', ⟨Lc, hQ, l1, y1, z1, r1⟩, stp⟩ := callSS X hx (y := y) hown (mvT hZ w1) (mvT hZ w2) (mvT hZ w3) (mvT hZ w4) hy (backOfSH (W := W) hM hZ w4 w3 hf hl hEL hR.1) (g := mkF m pc Ls st) rfl hsz (argsL := argsL) (rest := rest) (lenOf hds hlen) hst hW hd (fun _ _ => ⟨rfl, eT, hcl, hsl⟩)
  dsimp only [Pt.U, Pt.locs, Pt.cells, Pt.slots] at X' l1 y1 z1 stp hQ hS' hg' r1
  subst l1 y1 z1
  rw [eT] at hg'
  obtain ⟨q1, q2, q3, q4⟩ := rebS hS hk X' hS' hg' hZ hown
  exact Gl.of (fun t q => stp.trans q) (k v T' Lc q1 q2 q3 q4 hQ (hR.trans r1))
theorem Gl.callIH {G : State → Outcome → Prop} {vm0 : Vm} {k0 : Nat} (X : Stand p l e R (s.setVm vm0) m args below meth c T locs cells slots) (hx : p.tables.exec = Jvm.exec) (hZ : Z.Warmed39 (s.setVm vm0).vm) (hS : s.Since vm0 k0) (hk : k0 ≤ h.size) {vmS : Vm} {hh0 : Heap} (hEL : EW Z a0 EL) (hR : CHr Z EL vmS hh0 vm0 h) {own : String} {index : Nat} {y : MethodName} {bytes : ByteArray} {maxL : Nat} (hy1 : y.name = "<init>") (hown : (s.setVm vm0).vm.findClass own = some m.cls)
    (w1 : (Jvm.Cond.methodLink own index y).before a0 Z = true) (w2 : (Jvm.Cond.instanceMethod y).before a0 Z = true) (w3 : (Jvm.Cond.initialized y.cls).before a0 Z = true) (w4 : (Jvm.Cond.code y bytes maxL none).before a0 Z = true) (hy : y.cls ≠ "java/lang/invoke/MethodHandle" ∧ y.cls ≠ "java/lang/invoke/VarHandle")
    {rm : Room} {Q : Option Value → Heap → List Loc → Prop} {b : Addr} {argsL rest : List Value} (hM : ConH l Z EL y bytes maxL none [] rm rm.cells rm.slots (Value.ref b :: argsL).toArray h Q) (W : Nat) (hf : rm.frames + 1 ≤ R.frames) (hl : W + (maxL + 11) + rm.locals ≤ R.locals) (hcl : cells + rm.cells ≤ R.cells) (hsl : slots + rm.slots ≤ R.slots) (eT : T.heap = h)
    {pc : Nat} {Ls : Array Slot} {st : List Value} (hsz : Ls.size = c.maxLocals) {ps : List FieldType} {r' : Option FieldType} (hds : parseMethodDescriptor y.desc = some ⟨ps, r'⟩) (hlen : argsL.length = ps.length) (hst : st = argsL.reverse ++ .ref b :: rest) (hW : 2 * 0 + (rest.map fun v => v.category).sum ≤ W) (hd : decode c.code pc = .ok (.invokespecial index, 3))
    (k : ∀ (v : Option Value) (T' : State) (L : List Loc), Stand p l e R (s.setVm T'.vm) m args below meth c T' (locs ++ L) (cells + rm.cells) (slots + rm.slots) → s.Since T'.vm T'.heap.size → Z.Warmed39 (s.setVm T'.vm).vm → (s.setVm T'.vm).vm.findClass own = some m.cls → Q v T'.heap L → CHr Z EL vmS hh0 T'.vm T'.heap → Gl p e below G (T'.setTop (mkF m (pc + 3) Ls (v.toList ++ rest)))) : Gl p e below G (T.setTop (mkF m pc Ls st)) := by
  obtain ⟨v, _, ⟨T', L', k', n'⟩, -, X', hS', hg', ⟨Lc, hQ, l1, y1, z1, r1⟩, stp⟩ := X.specialBackS hx (y := y) hy1 hown (mvT hZ w1) (mvT hZ w2) (mvT hZ w4) hy (backOfSH (W := W) hM hZ w4 w3 hf hl hEL hR.1) (g := mkF m pc Ls st) rfl hsz (Steps.refl _) (a := b) (argsL := argsL) (rest := rest) (lenOf hds hlen) hst hW hd (fun _ _ => ⟨rfl, eT, hcl, hsl⟩)
  dsimp only [Pt.U, Pt.locs, Pt.cells, Pt.slots] at X' l1 y1 z1 stp hQ hS' hg' r1
  subst l1 y1 z1
  rw [eT] at hg'
  obtain ⟨q1, q2, q3, q4⟩ := rebS hS hk X' hS' hg' hZ hown
  exact Gl.of (fun t q => stp.trans q) (k v T' Lc q1 q2 q3 q4 hQ (hR.trans r1))
theorem Gl.callVH {G : State → Outcome → Prop} {vm0 : Vm} {k0 : Nat} (X : Stand p l e R (s.setVm vm0) m args below meth c T locs cells slots) (hx : p.tables.exec = Jvm.exec) (hZ : Z.Warmed39 (s.setVm vm0).vm) (hS : s.Since vm0 k0) (hk : k0 ≤ h.size) {vmS : Vm} {hh0 : Heap} (hEL : EW Z a0 EL) (hR : CHr Z EL vmS hh0 vm0 h) {own C : String} {index : Nat} {y z : MethodName} {bytes : ByteArray} {maxL : Nat} {rt : Option FieldType} (hown : (s.setVm vm0).vm.findClass own = some m.cls)
    (w1 : (Jvm.Cond.methodLink own index y).before a0 Z = true) (w2 : (Jvm.Cond.declares y).before a0 Z = true) (nf : NotFace (s.setVm vm0) y) (w5 : (Jvm.Cond.selects C y z).before a0 Z = true) (w6 : (Jvm.Cond.instanceMethod z).before a0 Z = true) (w4 : (Jvm.Cond.code z bytes maxL rt).before a0 Z = true) (w3 : (Jvm.Cond.initialized z.cls).before a0 Z = true) (hy : y.cls ≠ "java/lang/invoke/MethodHandle" ∧ y.cls ≠ "java/lang/invoke/VarHandle")
    {rm : Room} {Q : Option Value → Heap → List Loc → Prop} {b : Addr} {argsL rest : List Value} (hE : Exa Z h b C) (hM : ConH l Z EL z bytes maxL rt [] rm rm.cells rm.slots (Value.ref b :: argsL).toArray h Q) (W : Nat) (hf : rm.frames + 1 ≤ R.frames) (hl : W + (maxL + 11) + rm.locals ≤ R.locals) (hcl : cells + rm.cells ≤ R.cells) (hsl : slots + rm.slots ≤ R.slots) (eT : T.heap = h)
    {pc : Nat} {Ls : Array Slot} {st : List Value} (hsz : Ls.size = c.maxLocals) {ps : List FieldType} {r' : Option FieldType} (hds : parseMethodDescriptor y.desc = some ⟨ps, r'⟩) (hlen : argsL.length = ps.length) (hst : st = argsL.reverse ++ .ref b :: rest) (hW : 2 * 0 + (rest.map fun v => v.category).sum ≤ W) (hd : decode c.code pc = .ok (.invokevirtual index, 3))
    (k : ∀ (v : Option Value) (T' : State) (L : List Loc), Stand p l e R (s.setVm T'.vm) m args below meth c T' (locs ++ L) (cells + rm.cells) (slots + rm.slots) → s.Since T'.vm T'.heap.size → Z.Warmed39 (s.setVm T'.vm).vm → (s.setVm T'.vm).vm.findClass own = some m.cls → Q v T'.heap L → CHr Z EL vmS hh0 T'.vm T'.heap → Gl p e below G (T'.setTop (mkF m (pc + 3) Ls (v.toList ++ rest)))) : Gl p e below G (T.setTop (mkF m pc Ls st)) := by
  obtain ⟨cq, kq, qa, qb, qc⟩ := isOf hZ eT hE
  obtain ⟨v, _, ⟨T', L', k', n'⟩, -, X', hS', hg', ⟨Lc, hQ, l1, y1, z1, r1⟩, stp⟩ := X.virtualBackS hx (y := y) (z := z) hown (mvT hZ w1) (mvT hZ w2) nf (mvT hZ w5) (mvT hZ w6) hy (backOfSH (W := W) hM hZ w4 w3 hf hl hEL hR.1) qa qc (g := mkF m pc Ls st) rfl hsz (Steps.refl _) (argsL := argsL) (rest := rest) (lenOf hds hlen) hst hW hd (fun _ _ => ⟨rfl, eT, hcl, hsl⟩)
  dsimp only [Pt.U, Pt.locs, Pt.cells, Pt.slots] at X' l1 y1 z1 stp hQ hS' hg' r1
  subst l1 y1 z1
  rw [eT] at hg'
  obtain ⟨q1, q2, q3, q4⟩ := rebS hS hk X' hS' hg' hZ hown
  exact Gl.of (fun t q => stp.trans q) (k v T' Lc q1 q2 q3 q4 hQ (hR.trans r1))
def ConE (l : Launch) (Z : State) (EL : List (String × Nat)) (y : MethodName) (bytes : ByteArray) (maxL : Nat) (rt : Option FieldType) (ws : List Jvm.Cond) (rm : Room) (C N : Nat) (as : Array Value) (h : Heap) (Q : Option Value → Heap → List Loc → Prop) : Prop :=
  MetFree l y (head1 (Jvm.Cond.code y bytes maxL rt :: ws) rm) (fun a U => a = as ∧ Z.Warmed39 U.vm ∧ U.heap = h ∧ CHv Z EL U.vm h) (fun _ _ _ _ _ => True) (fun _ U o U' => ∃ v L, o = .returned v ∧ Q v U'.heap L ∧ ReturnedEndW U o U' L C N)
theorem ConE.intro {y : MethodName} {bytes : ByteArray} {maxL : Nat} {rt : Option FieldType} {ws : List Jvm.Cond} {rm : Room} {C N : Nat} {as : Array Value} {Q : Option Value → Heap → List Loc → Prop} (hp : plainFor y = true)
    (body : ∀ p e s m below meth c s₁, Stand p l e rm s m as below meth c s₁ [] 0 0 → p.tables.exec = Jvm.exec → c.code = bytes → c.maxLocals = maxL → Z.Warmed39 s.vm → s.vm.findClass y.cls = some m.cls → meth.name = y.name → meth.sig.returnType = rt → meth.locks = false → s₁.heap = h → s.heap = h → CHr Z EL s.vm s.heap s.vm h →
      Gl p e below (GdW s Q C N) (s₁.setTop (entryFrame m as maxL))) : ConE l Z EL y bytes maxL rt ws rm C N as h Q := by
  refine MetFree.of_bodySF hp hisR ?_
  intro p e s m args below meth c s₁ Bd hml0 hP hK
  obtain ⟨rfl, hZ, hh, hC⟩ := hP
  exact body p e s m below meth c s₁ (Stand.of_body Bd) Bd.exec Bd.bytes hml0 hZ (findClass_of_methodNamed Bd.named) (name_of_methodNamed Bd.named Bd.method).1 Bd.returns (BodyLoose.notSynchronized Bd) (by rw [← hh, Bd.state]; rfl) hh (by rw [hh]; exact CHr.refl hC)
theorem own_backE {vm0 : Vm} {y : MethodName} {bytes : ByteArray} {maxL : Nat} {ret : Option FieldType} {rm : Room} {len W : Nat} {as' : Array Value} {Q : Option Value → Heap → List Loc → Prop}
    (hM : ConE l Z EL y bytes maxL ret [] rm rm.cells rm.slots as' h Q) (hZ : Z.Warmed39 vm0) (wc : (Jvm.Cond.code y bytes maxL ret).before a0 Z = true) (wz : (Jvm.Cond.initialized y.cls).before a0 Z = true) (hf : rm.frames + 1 ≤ R.frames) (hl : W + (maxL + 11) + rm.locals ≤ R.locals) (hEL : EW Z a0 EL) (H : CHv Z EL vm0 h) :
    BackS l R p e below (s.setVm vm0) args y len W (fun A a => a = as' ∧ A.U.heap = h ∧ A.cells + rm.cells ≤ R.cells ∧ A.slots + rm.slots ≤ R.slots)
      (fun A _ v B => ∃ L, Q v B.U.heap L ∧ B.locs = A.locs ++ L ∧ B.cells = A.cells + rm.cells ∧ B.slots = A.slots + rm.slots) :=
  BackS.of_freeW (bytes := bytes) (maxL := maxL) (ret := ret) (E := fun _ first o t L k n => k = rm.cells ∧ n = rm.slots ∧ ∃ v, o = .returned v ∧ Q v t.heap L) hM hf hl
    (fun m meth c A a Y hp => have hU : Z.Warmed39 A.U.vm := wtrans (s := s.setVm vm0) hZ Y.warmed
      ⟨by show (Jvm.Cond.and _ .tt).before a A.U = true; rw [Cond.before_and, mv hU wc]; rfl, mv hU wc, mv hU wz, hp.2.2.1, hp.2.2.2⟩)
    (fun m meth c A a g mk Y hp => ⟨hp.1, wtrans (s := s.setVm vm0) hZ Y.warmed, hp.2.1, (CHv.at Y hZ hEL H).1⟩) (fun _ _ _ _ _ _ _ _ _ => trivial)
    (fun _ _ _ _ ⟨v, L, h1, h2, h3⟩ => ⟨L, _, _, h3, rfl, rfl, v, h1, h2⟩)
    (fun m meth c A a g mk v t L k n Y hp _ _ ⟨e1, e2, v', e3, e4⟩ => by cases e3; subst e1 e2; exact ⟨L, e4, rfl, rfl, rfl⟩)
theorem Gl.callSE {G : State → Outcome → Prop} {vm0 : Vm} {k0 : Nat} (X : Stand p l e R (s.setVm vm0) m args below meth c T locs cells slots) (hx : p.tables.exec = Jvm.exec) (hZ : Z.Warmed39 (s.setVm vm0).vm) (hS : s.Since vm0 k0) (hk : k0 ≤ h.size) {vmS : Vm} {hh0 : Heap} (hEL : EW Z a0 EL) (hR : CHr Z EL vmS hh0 vm0 h) {own : String} {index : Nat} {y : MethodName} {bytes : ByteArray} {maxL : Nat} {rt : Option FieldType} (hown : (s.setVm vm0).vm.findClass own = some m.cls)
    (w1 : (Jvm.Cond.methodLink own index y).before a0 Z = true) (w2 : (Jvm.Cond.static y).before a0 Z = true) (w3 : (Jvm.Cond.initialized y.cls).before a0 Z = true) (w4 : (Jvm.Cond.code y bytes maxL rt).before a0 Z = true) (hy : y.cls ≠ "java/lang/invoke/MethodHandle" ∧ y.cls ≠ "java/lang/invoke/VarHandle")
    {rm : Room} {Q : Option Value → Heap → List Loc → Prop} {argsL rest : List Value} (hM : ConE l Z EL y bytes maxL rt [] rm rm.cells rm.slots argsL.toArray h Q) (W : Nat) (hf : rm.frames + 1 ≤ R.frames) (hl : W + (maxL + 11) + rm.locals ≤ R.locals) (hcl : cells + rm.cells ≤ R.cells) (hsl : slots + rm.slots ≤ R.slots) (eT : T.heap = h)
    {pc : Nat} {Ls : Array Slot} {st : List Value} (hsz : Ls.size = c.maxLocals) {ps : List FieldType} {r' : Option FieldType} (hds : parseMethodDescriptor y.desc = some ⟨ps, r'⟩) (hlen : argsL.length = ps.length) (hst : st = argsL.reverse ++ rest) (hW : 2 * 0 + (rest.map fun v => v.category).sum ≤ W) (hd : decode c.code pc = .ok (.invokestatic index, 3))
    (k : ∀ (v : Option Value) (T' : State) (L : List Loc), Stand p l e R (s.setVm T'.vm) m args below meth c T' (locs ++ L) (cells + rm.cells) (slots + rm.slots) → s.Since T'.vm T'.heap.size → Z.Warmed39 (s.setVm T'.vm).vm → (s.setVm T'.vm).vm.findClass own = some m.cls → Q v T'.heap L → Gl p e below G (T'.setTop (mkF m (pc + 3) Ls (v.toList ++ rest)))) : Gl p e below G (T.setTop (mkF m pc Ls st)) := by
  obtain ⟨v, _, ⟨T', L', k', n'⟩, -, X', hS', hg', ⟨Lc, hQ, l1, y1, z1⟩, stp⟩ := callSS X hx (y := y) hown (mvT hZ w1) (mvT hZ w2) (mvT hZ w3) (mvT hZ w4) hy (own_backE (W := W) hM hZ w4 w3 hf hl hEL hR.1) (g := mkF m pc Ls st) rfl hsz (argsL := argsL) (rest := rest) (lenOf hds hlen) hst hW hd (fun _ _ => ⟨rfl, eT, hcl, hsl⟩)
  dsimp only [Pt.U, Pt.locs, Pt.cells, Pt.slots] at X' l1 y1 z1 stp hQ hS' hg'
  subst l1 y1 z1
  rw [eT] at hg'
  obtain ⟨q1, q2, q3, q4⟩ := rebS hS hk X' hS' hg' hZ hown
  exact Gl.of (fun t q => stp.trans q) (k v T' Lc q1 q2 q3 q4 hQ)
theorem Gl.callIE {G : State → Outcome → Prop} {vm0 : Vm} {k0 : Nat} (X : Stand p l e R (s.setVm vm0) m args below meth c T locs cells slots) (hx : p.tables.exec = Jvm.exec) (hZ : Z.Warmed39 (s.setVm vm0).vm) (hS : s.Since vm0 k0) (hk : k0 ≤ h.size) {vmS : Vm} {hh0 : Heap} (hEL : EW Z a0 EL) (hR : CHr Z EL vmS hh0 vm0 h) {own : String} {index : Nat} {y : MethodName} {bytes : ByteArray} {maxL : Nat} (hy1 : y.name = "<init>") (hown : (s.setVm vm0).vm.findClass own = some m.cls)
    (w1 : (Jvm.Cond.methodLink own index y).before a0 Z = true) (w2 : (Jvm.Cond.instanceMethod y).before a0 Z = true) (w3 : (Jvm.Cond.initialized y.cls).before a0 Z = true) (w4 : (Jvm.Cond.code y bytes maxL none).before a0 Z = true) (hy : y.cls ≠ "java/lang/invoke/MethodHandle" ∧ y.cls ≠ "java/lang/invoke/VarHandle")
    {rm : Room} {Q : Option Value → Heap → List Loc → Prop} {b : Addr} {argsL rest : List Value} (hM : ConE l Z EL y bytes maxL none [] rm rm.cells rm.slots (Value.ref b :: argsL).toArray h Q) (W : Nat) (hf : rm.frames + 1 ≤ R.frames) (hl : W + (maxL + 11) + rm.locals ≤ R.locals) (hcl : cells + rm.cells ≤ R.cells) (hsl : slots + rm.slots ≤ R.slots) (eT : T.heap = h)
    {pc : Nat} {Ls : Array Slot} {st : List Value} (hsz : Ls.size = c.maxLocals) {ps : List FieldType} {r' : Option FieldType} (hds : parseMethodDescriptor y.desc = some ⟨ps, r'⟩) (hlen : argsL.length = ps.length) (hst : st = argsL.reverse ++ .ref b :: rest) (hW : 2 * 0 + (rest.map fun v => v.category).sum ≤ W) (hd : decode c.code pc = .ok (.invokespecial index, 3))
    (k : ∀ (v : Option Value) (T' : State) (L : List Loc), Stand p l e R (s.setVm T'.vm) m args below meth c T' (locs ++ L) (cells + rm.cells) (slots + rm.slots) → s.Since T'.vm T'.heap.size → Z.Warmed39 (s.setVm T'.vm).vm → (s.setVm T'.vm).vm.findClass own = some m.cls → Q v T'.heap L → Gl p e below G (T'.setTop (mkF m (pc + 3) Ls (v.toList ++ rest)))) : Gl p e below G (T.setTop (mkF m pc Ls st)) := by
  obtain ⟨v, _, ⟨T', L', k', n'⟩, -, X', hS', hg', ⟨Lc, hQ, l1, y1, z1⟩, stp⟩ := X.specialBackS hx (y := y) hy1 hown (mvT hZ w1) (mvT hZ w2) (mvT hZ w4) hy (own_backE (W := W) hM hZ w4 w3 hf hl hEL hR.1) (g := mkF m pc Ls st) rfl hsz (Steps.refl _) (a := b) (argsL := argsL) (rest := rest) (lenOf hds hlen) hst hW hd (fun _ _ => ⟨rfl, eT, hcl, hsl⟩)
  dsimp only [Pt.U, Pt.locs, Pt.cells, Pt.slots] at X' l1 y1 z1 stp hQ hS' hg'
  subst l1 y1 z1
  rw [eT] at hg'
  obtain ⟨q1, q2, q3, q4⟩ := rebS hS hk X' hS' hg' hZ hown
  exact Gl.of (fun t q => stp.trans q) (k v T' Lc q1 q2 q3 q4 hQ)
theorem Gl.callVE {G : State → Outcome → Prop} {vm0 : Vm} {k0 : Nat} (X : Stand p l e R (s.setVm vm0) m args below meth c T locs cells slots) (hx : p.tables.exec = Jvm.exec) (hZ : Z.Warmed39 (s.setVm vm0).vm) (hS : s.Since vm0 k0) (hk : k0 ≤ h.size) {vmS : Vm} {hh0 : Heap} (hEL : EW Z a0 EL) (hR : CHr Z EL vmS hh0 vm0 h) {own C : String} {index : Nat} {y z : MethodName} {bytes : ByteArray} {maxL : Nat} {rt : Option FieldType} (hown : (s.setVm vm0).vm.findClass own = some m.cls)
    (w1 : (Jvm.Cond.methodLink own index y).before a0 Z = true) (w2 : (Jvm.Cond.declares y).before a0 Z = true) (nf : NotFace (s.setVm vm0) y) (w5 : (Jvm.Cond.selects C y z).before a0 Z = true) (w6 : (Jvm.Cond.instanceMethod z).before a0 Z = true) (w4 : (Jvm.Cond.code z bytes maxL rt).before a0 Z = true) (w3 : (Jvm.Cond.initialized z.cls).before a0 Z = true) (hy : y.cls ≠ "java/lang/invoke/MethodHandle" ∧ y.cls ≠ "java/lang/invoke/VarHandle")
    {rm : Room} {Q : Option Value → Heap → List Loc → Prop} {b : Addr} {argsL rest : List Value} (hE : Exa Z h b C) (hM : ConE l Z EL z bytes maxL rt [] rm rm.cells rm.slots (Value.ref b :: argsL).toArray h Q) (W : Nat) (hf : rm.frames + 1 ≤ R.frames) (hl : W + (maxL + 11) + rm.locals ≤ R.locals) (hcl : cells + rm.cells ≤ R.cells) (hsl : slots + rm.slots ≤ R.slots) (eT : T.heap = h)
    {pc : Nat} {Ls : Array Slot} {st : List Value} (hsz : Ls.size = c.maxLocals) {ps : List FieldType} {r' : Option FieldType} (hds : parseMethodDescriptor y.desc = some ⟨ps, r'⟩) (hlen : argsL.length = ps.length) (hst : st = argsL.reverse ++ .ref b :: rest) (hW : 2 * 0 + (rest.map fun v => v.category).sum ≤ W) (hd : decode c.code pc = .ok (.invokevirtual index, 3))
    (k : ∀ (v : Option Value) (T' : State) (L : List Loc), Stand p l e R (s.setVm T'.vm) m args below meth c T' (locs ++ L) (cells + rm.cells) (slots + rm.slots) → s.Since T'.vm T'.heap.size → Z.Warmed39 (s.setVm T'.vm).vm → (s.setVm T'.vm).vm.findClass own = some m.cls → Q v T'.heap L → Gl p e below G (T'.setTop (mkF m (pc + 3) Ls (v.toList ++ rest)))) : Gl p e below G (T.setTop (mkF m pc Ls st)) := by
  obtain ⟨cq, kq, qa, qb, qc⟩ := isOf hZ eT hE
  obtain ⟨v, _, ⟨T', L', k', n'⟩, -, X', hS', hg', ⟨Lc, hQ, l1, y1, z1⟩, stp⟩ := X.virtualBackS hx (y := y) (z := z) hown (mvT hZ w1) (mvT hZ w2) nf (mvT hZ w5) (mvT hZ w6) hy (own_backE (W := W) hM hZ w4 w3 hf hl hEL hR.1) qa qc (g := mkF m pc Ls st) rfl hsz (Steps.refl _) (argsL := argsL) (rest := rest) (lenOf hds hlen) hst hW hd (fun _ _ => ⟨rfl, eT, hcl, hsl⟩)
  dsimp only [Pt.U, Pt.locs, Pt.cells, Pt.slots] at X' l1 y1 z1 stp hQ hS' hg'
  subst l1 y1 z1
  rw [eT] at hg'
  obtain ⟨q1, q2, q3, q4⟩ := rebS hS hk X' hS' hg' hZ hown
  exact Gl.of (fun t q => stp.trans q) (k v T' Lc q1 q2 q3 q4 hQ)
theorem Gl.callU0 {G : State → Outcome → Prop} (X : Stand p l e R s m args below meth c T locs cells slots) (hx : p.tables.exec = Jvm.exec) (hZ : Z.Warmed39 s.vm) {own C owner : String} {index : Nat} {y z : MethodName} {bytes : ByteArray} {maxL : Nat} {rt : Option FieldType} (hown : s.vm.findClass own = some m.cls)
    (w1 : (Jvm.Cond.methodLink own index y).before a0 Z = true) (w0 : (Jvm.Cond.sameMethod y.cls owner y.name y.desc).before a0 Z = true) (w2 : (Jvm.Cond.declares ⟨owner, y.name, y.desc⟩).before a0 Z = true) (w3 : (Jvm.Cond.selects C y z).before a0 Z = true) (w4 : (Jvm.Cond.instanceMethod z).before a0 Z = true) (w5 : (Jvm.Cond.code z bytes maxL rt).before a0 Z = true) (w6 : (Jvm.Cond.initialized z.cls).before a0 Z = true) (hy : owner ≠ "java/lang/invoke/MethodHandle" ∧ owner ≠ "java/lang/invoke/VarHandle")
    {fr lo : Nat} {F : Option Value → Prop} {b : Addr} {argsL rest : List Value} (hE : Exa Z h b C) (hM : Con l Z z bytes maxL rt [] ({ frames := fr, cells := 0, slots := 0, locals := lo } : Room) 0 0 (.ref b :: argsL).toArray h (Pur F h)) (W : Nat) (hf : fr + 1 ≤ R.frames) (hl : W + (maxL + 11) + lo ≤ R.locals) (eT : T.heap = h)
    {pc : Nat} {Ls : Array Slot} {st : List Value} (hsz : Ls.size = c.maxLocals) {ps : List FieldType} {r' : Option FieldType} (hds : parseMethodDescriptor y.desc = some ⟨ps, r'⟩) (hlen : argsL.length = ps.length) (hst : st = argsL.reverse ++ .ref b :: rest) (hW : 2 * 0 + (rest.map fun v => v.category).sum ≤ W) (hd : decode c.code pc = .ok (.invokevirtual index, 3)) (hcl : cells ≤ R.cells) (hsl : slots ≤ R.slots)
    (k : ∀ (v : Option Value) (T' : State), Stand p l e R s m args below meth c T' locs cells slots → T'.heap = h → F v → Gl p e below G (T'.setTop (mkF m (pc + 3) Ls (v.toList ++ rest)))) : Gl p e below G (T.setTop (mkF m pc Ls st)) := by
  obtain ⟨cq, kq, qa, qb, qc⟩ := isOf hZ eT hE
  obtain ⟨v, _, ⟨T', L', k', n'⟩, -, X', ⟨Lc, hQ, l1, y1, z1⟩, stp⟩ := X.virtualBackUp hx (x := y) (y := z) (owner := owner) hown (mvT hZ w1) (mvT hZ w0) (mvT hZ w2) hy (mvT hZ w3) (mvT hZ w4) (backOf (W := W) hM hZ w5 w6 hf hl) qa qc (g := mkF m pc Ls st) rfl hsz (Steps.refl _) (argsL := argsL) (rest := rest) (lenOf hds hlen) hst hW hd (fun _ _ => ⟨rfl, eT, hcl, hsl⟩)
  dsimp only [Pt.U, Pt.locs, Pt.cells, Pt.slots] at X' l1 y1 z1 stp hQ
  obtain ⟨q1, q2, rfl⟩ := hQ
  subst l1 y1 z1
  rw [List.append_nil] at X'
  exact Gl.of (fun t q => stp.trans q) (k v T' X' q2 q1)
end OwnH
section OwnCor
variable {p : Program} {l : Launch} {e : Env} {R : Room} {s : State} {m : MethodId} {args : Array Value} {below : List Frame} {meth : Method} {c : Code} {T : State} {locs : List Loc} {cells slots : Nat} {Z : State} {a0 : Array Value} {h : Heap}
theorem own_nat {n : Nat} (h : n < 2 ^ 31) : (Int32.ofNat n).toNatClampNeg = n := by
  simp only [Int32.toNatClampNeg, Int32.toInt_ofNat_of_lt h]; rfl
theorem own_neg {n : Nat} (h : n < 2 ^ 31) : ¬ Int32.ofNat n < 0 := by
  rw [Int32.lt_iff_toInt_lt, Int32.toInt_ofNat_of_lt h]; have : (0 : Int32).toInt = 0 := rfl; omega
end OwnCor
theorem w19 {Z : State} {a0 : Array Value} (hw : ∀ d ∈ tables_1, d.before a0 Z = true) : (Jvm.Cond.stringLink "java/lang/String" (7 : Nat) "").before a0 Z = true := hw _ (List.mem_of_getElem? (i := 19) rfl)
def own_emp : List Int32 := []
def own_EL : List (String × Nat) := consts_1
theorem own_el {Z : State} {a0 : Array Value} (hw : ∀ d ∈ tables_1, d.before a0 Z = true) : EW Z a0 own_EL := EW.cons (w19 hw) (by decide) EW.nil
theorem own_u16 (u : UInt16) : (u.toUInt32.toInt32).toInt = u.toNat := by
  have hu := u.toNat_lt
  have e : u.toUInt32.toInt32.toInt = (u.toUInt32.toBitVec).toInt := rfl
  have e2 : u.toUInt32.toBitVec.toNat = u.toNat := UInt16.toNat_toUInt32 u
  rw [e, BitVec.toInt_eq_toNat_of_lt (by rw [e2]; omega), e2]
theorem own_i2c {x : Int32} (h0 : 0 ≤ x.toInt) (h1 : x.toInt ≤ 65535) : x.toUInt32.toUInt16.toUInt32.toInt32 = x := by
  apply Int32.toInt_inj.mp
  rw [own_u16, UInt32.toNat_toUInt16]
  have e : x.toInt = x.toBitVec.toInt := rfl
  have e2 : x.toUInt32.toNat = x.toBitVec.toNat := rfl
  rw [BitVec.toInt_eq_toNat_cond] at e
  have e3 := x.toBitVec.isLt
  rw [e2]
  split at e <;> omega
def own_rg (c : Int32) : Prop := ¬ c < 0 ∧ ¬ (65535 : Int32) < c
theorem own_nc {c : Int32} (h : own_rg c) : nar .char c = c := by
  have e0 : (0 : Int32).toInt = 0 := rfl
  have e1 : (65535 : Int32).toInt = 65535 := rfl
  unfold own_rg at h
  simp only [Int32.lt_iff_toInt_lt] at h
  exact own_i2c (by omega) (by omega)
theorem own_nr (c : Int32) : own_rg (nar .char c) := by
  have e0 : (0 : Int32).toInt = 0 := rfl
  have e1 : (65535 : Int32).toInt = 65535 := rfl
  have q : (nar .char c).toInt = (c.toUInt32.toUInt16).toNat := own_u16 _
  have u := (c.toUInt32.toUInt16).toNat_lt
  unfold own_rg
  simp only [Int32.lt_iff_toInt_lt, q]
  omega
def own_hi (c : Int32) : Int32 := nar .byte ((c >>> ((0 : Int32) &&& 31)).toInt8.toInt32)
def own_lo (c : Int32) : Int32 := nar .byte ((c >>> ((8 : Int32) &&& 31)).toInt8.toInt32)
def own_gc (u v : Int32) : Int32 := nar .char ((((u &&& (255 : Int32)) <<< ((0 : Int32) &&& 31)) ||| ((v &&& (255 : Int32)) <<< ((8 : Int32) &&& 31))).toUInt32.toUInt16.toUInt32.toInt32)
theorem own_nb8 (x : Int32) : nar .byte (x.toInt8.toInt32) = x.toInt8.toInt32 := by
  show (x.toInt8.toInt32).toInt8.toInt32 = _
  rw [Int8.toInt8_toInt32]
theorem own_gch {c : Int32} (h : own_rg c) : own_gc (own_hi c) (own_lo c) = c := by
  have e : own_gc (own_hi c) (own_lo c) = nar .char (StrChars.pairCh (StrChars.lo8 c) (StrChars.hi8 c)) := by
    unfold own_gc own_hi own_lo StrChars.pairCh StrChars.hi8 StrChars.lo8
    rw [own_nb8, own_nb8, StrChars.shr0]
  rw [e, StrChars.pair_says h.1 h.2]
  exact own_nc h
theorem own_arx {Z : State} {a0 : Array Value} {h : Heap} {x t : Addr} {k : ClassId} {n : Nat} {ty : FieldType} {z : Int32} {vs : List Value} {d : Value} (E : Exa Z h x "java/lang/String") (V : Arv Z h t k ty z vs d) (wi : (Jvm.Cond.instantiable "java/lang/String" n).before a0 Z = true) : ¬ t = x := fun q => by
  subst q
  obtain ⟨c1, k1, h1, h2, h3, -⟩ := E
  obtain ⟨c2, ⟨a1, ⟨-, k9, hk9, comp, hkind⟩, -⟩, -⟩ := V
  cases h1.symm.trans a1
  obtain ⟨cy, ky, i1, i2, i3, -⟩ := Cond.instantiable_spec wi
  cases h2.symm.trans i1
  cases hk9.symm.trans i2
  rw [i3] at hkind
  cases hkind
theorem ef_1 (m : MethodId) (x0 : Addr) (x1 : Int32) (x2 : Int32) : entryFrame m #[(.ref x0), (.int x1), (.int x2)] 3 = mkF m 0 #[.val (.ref x0), .val (.int x1), .val (.int x2)] [] := by first | (simp [entryFrame, mkF, argsToLocals, Value.category, maxLocals]; done) | rfl
theorem pn_0 : plainName "java/lang/StringUTF16" = true := by first | (simp [plainName, overriddenIn]; done) | decide +kernel
theorem d16_0 : decode jdk_52_method_4_code 0 = .ok (.getstatic 44, 3) := by decide +kernel
theorem w96 {Z : State} {a0 : Array Value} (hw : ∀ d ∈ tables_1, d.before a0 Z = true) : (Jvm.Cond.fieldLink "java/lang/StringUTF16" (44 : Nat) "java/lang/StringUTF16" "$assertionsDisabled" "Z").before a0 Z = true := hw _ (List.mem_of_getElem? (i := 96) rfl)
theorem d16_3 : decode jdk_52_method_4_code 3 = .ok (.ifCond .ne 25, 3) := by decide +kernel
theorem d16_28 : decode jdk_52_method_4_code 28 = .ok (.iload_n 1, 1) := by decide +kernel
theorem d16_29 : decode jdk_52_method_4_code 29 = .ok (.iconst 1, 1) := by decide +kernel
theorem d16_30 : decode jdk_52_method_4_code 30 = .ok (.ishl, 1) := by decide +kernel
theorem d16_31 : decode jdk_52_method_4_code 31 = .ok (.istore_n 1, 1) := by decide +kernel
theorem d16_32 : decode jdk_52_method_4_code 32 = .ok (.aload_n 0, 1) := by decide +kernel
theorem d16_33 : decode jdk_52_method_4_code 33 = .ok (.iload_n 1, 1) := by decide +kernel
theorem d16_34 : decode jdk_52_method_4_code 34 = .ok (.iinc 1 1, 3) := by decide +kernel
theorem d16_37 : decode jdk_52_method_4_code 37 = .ok (.iload_n 2, 1) := by decide +kernel
theorem d16_38 : decode jdk_52_method_4_code 38 = .ok (.getstatic 59, 3) := by decide +kernel
theorem w97 {Z : State} {a0 : Array Value} (hw : ∀ d ∈ tables_1, d.before a0 Z = true) : (Jvm.Cond.fieldLink "java/lang/StringUTF16" (59 : Nat) "java/lang/StringUTF16" "HI_BYTE_SHIFT" "I").before a0 Z = true := hw _ (List.mem_of_getElem? (i := 97) rfl)
theorem d16_41 : decode jdk_52_method_4_code 41 = .ok (.ishr, 1) := by decide +kernel
theorem d16_42 : decode jdk_52_method_4_code 42 = .ok (.i2b, 1) := by decide +kernel
theorem d16_43 : decode jdk_52_method_4_code 43 = .ok (.bastore, 1) := by decide +kernel
theorem d16_44 : decode jdk_52_method_4_code 44 = .ok (.aload_n 0, 1) := by decide +kernel
theorem d16_45 : decode jdk_52_method_4_code 45 = .ok (.iload_n 1, 1) := by decide +kernel
theorem d16_46 : decode jdk_52_method_4_code 46 = .ok (.iload_n 2, 1) := by decide +kernel
theorem d16_47 : decode jdk_52_method_4_code 47 = .ok (.getstatic 63, 3) := by decide +kernel
theorem w98 {Z : State} {a0 : Array Value} (hw : ∀ d ∈ tables_1, d.before a0 Z = true) : (Jvm.Cond.fieldLink "java/lang/StringUTF16" (63 : Nat) "java/lang/StringUTF16" "LO_BYTE_SHIFT" "I").before a0 Z = true := hw _ (List.mem_of_getElem? (i := 98) rfl)
theorem d16_50 : decode jdk_52_method_4_code 50 = .ok (.ishr, 1) := by decide +kernel
theorem d16_51 : decode jdk_52_method_4_code 51 = .ok (.i2b, 1) := by decide +kernel
theorem d16_52 : decode jdk_52_method_4_code 52 = .ok (.bastore, 1) := by decide +kernel
theorem d16_53 : decode jdk_52_method_4_code 53 = .ok (.return_, 1) := by decide +kernel
set_option maxRecDepth 65536 in
set_option maxHeartbeats 40000000 in
theorem rmP20 (l : Launch) (Z : State) (a0 : Array Value) (hw : ∀ d ∈ tables_1, d.before a0 Z = true) (h0 : Heap) (a1 : Addr) (kk1 : ClassId) (y0 y1 p3 : Int32) (n0 : Nat) (V1 : Arv Z h0 a1 kk1 .byte (2 : Int32) [.int y0, .int y1] (.int 0)) (Ga1 : n0 ≤ a1) (Sa : Sta Z Z.heap "java/lang/StringUTF16" "$assertionsDisabled" "Z" (.int 1)) (Sh : Sta Z Z.heap "java/lang/StringUTF16" "HI_BYTE_SHIFT" "I" (.int 0)) (Sl : Sta Z Z.heap "java/lang/StringUTF16" "LO_BYTE_SHIFT" "I" (.int 8)) (O0 : Old Z n0 h0) : Con l Z (⟨"java/lang/StringUTF16", "putChar", "([BII)V"⟩ : MethodName) jdk_52_method_4_code 3 none [] ({ frames := 0, cells := 0, slots := 0, locals := 0 } : Room) 0 0 #[(.ref a1), (.int (0 : Int32)), (.int p3)] h0 (fun v h L => v = none ∧ Fr n0 L ∧ Keep h0 h [a1] ∧ Arv Z h a1 kk1 .byte (2 : Int32) [.int (own_hi p3), .int (own_lo p3)] (.int 0)) := by
  refine Con.intro (plainFor_of_name pn_0) ?_
  intro p e s m below meth c s₁ X0 hx hby hml hZ hown hnm hret hlk e0 hs0
  refine Gl.of (fun _ kq_ => castTop (ef_1 m a1 (0 : Int32) p3) kq_) ?_
  have K0 := Keep.refl h0 [a1]
  show Gl p e below _ (s₁.setTop (mkF m 0 #[.val (.ref a1), .val (.int (0 : Int32)), .val (.int p3)] []))
  obtain ⟨T1, X1, e1, st1⟩ := getS2 X0 hx hZ hown (host := "") (Or.inl (w96 hw)) Via.refl e0 (Sa.ext O0.2) (g := (mkF m 0 #[.val (.ref a1), .val (.int (0 : Int32)), .val (.int p3)] [])) rfl (hb hby d16_0)
  refine Gl.of st1 ?_
  show Gl p e below _ (T1.setTop (mkF m 3 #[.val (.ref a1), .val (.int (0 : Int32)), .val (.int p3)] [(.int (1 : Int32))]))
  refine Gl.of (fun _ kq_ => XS.ifYes X1.here hx rfl (pc0 := 3) (pc' := 28) rfl (hb hby d16_3) rfl ((if0 _ _).trans (feq (by decide : ¬ ((1 : Int32) = (0 : Int32)))).2) (by decide) (by decide) kq_) ?_
  show Gl p e below _ (T1.setTop (mkF m 28 #[.val (.ref a1), .val (.int (0 : Int32)), .val (.int p3)] []))
  refine Gl.of (fun _ kq_ => XS.iloadN X1.here hx rfl (hb hby d16_28) rfl kq_) ?_
  show Gl p e below _ (T1.setTop (mkF m 29 #[.val (.ref a1), .val (.int (0 : Int32)), .val (.int p3)] [(.int (0 : Int32))]))
  refine Gl.of (fun _ kq_ => XS.iconst X1.here hx rfl (hb hby d16_29) kq_) ?_
  show Gl p e below _ (T1.setTop (mkF m 30 #[.val (.ref a1), .val (.int (0 : Int32)), .val (.int p3)] [(.int (1 : Int32)), (.int (0 : Int32))]))
  refine Gl.of (fun _ kq_ => XS.ishl X1.here hx rfl (hb hby d16_30) rfl kq_) ?_
  rw [show ((0 : Int32) <<< ((1 : Int32) &&& 31)) = (0 : Int32) from rfl]
  show Gl p e below _ (T1.setTop (mkF m 31 #[.val (.ref a1), .val (.int (0 : Int32)), .val (.int p3)] [(.int (0 : Int32))]))
  refine Gl.of (fun _ kq_ => XS.istoreN X1.here hx rfl (hb hby d16_31) rfl (l' := #[.val (.ref a1), .val (.int (0 : Int32)), .val (.int p3)]) rfl kq_) ?_
  show Gl p e below _ (T1.setTop (mkF m 32 #[.val (.ref a1), .val (.int (0 : Int32)), .val (.int p3)] []))
  refine Gl.of (fun _ kq_ => XS.aloadN X1.here hx rfl (hb hby d16_32) rfl rfl kq_) ?_
  show Gl p e below _ (T1.setTop (mkF m 33 #[.val (.ref a1), .val (.int (0 : Int32)), .val (.int p3)] [(.ref a1)]))
  refine Gl.of (fun _ kq_ => XS.iloadN X1.here hx rfl (hb hby d16_33) rfl kq_) ?_
  show Gl p e below _ (T1.setTop (mkF m 34 #[.val (.ref a1), .val (.int (0 : Int32)), .val (.int p3)] [(.int (0 : Int32)), (.ref a1)]))
  refine Gl.of (fun _ kq_ => XS.iinc X1.here hx rfl (hb hby d16_34) rfl (l' := #[.val (.ref a1), .val (.int (1 : Int32)), .val (.int p3)]) rfl kq_) ?_
  show Gl p e below _ (T1.setTop (mkF m 37 #[.val (.ref a1), .val (.int (1 : Int32)), .val (.int p3)] [(.int (0 : Int32)), (.ref a1)]))
  refine Gl.of (fun _ kq_ => XS.iloadN X1.here hx rfl (hb hby d16_37) rfl kq_) ?_
  show Gl p e below _ (T1.setTop (mkF m 38 #[.val (.ref a1), .val (.int (1 : Int32)), .val (.int p3)] [(.int p3), (.int (0 : Int32)), (.ref a1)]))
  obtain ⟨T2, X2, e2, st2⟩ := getS2 X1 hx hZ hown (host := "") (Or.inl (w97 hw)) Via.refl e1 (Sh.ext O0.2) (g := (mkF m 38 #[.val (.ref a1), .val (.int (1 : Int32)), .val (.int p3)] [(.int p3), (.int (0 : Int32)), (.ref a1)])) rfl (hb hby d16_38)
  refine Gl.of st2 ?_
  show Gl p e below _ (T2.setTop (mkF m 41 #[.val (.ref a1), .val (.int (1 : Int32)), .val (.int p3)] [(.int (0 : Int32)), (.int p3), (.int (0 : Int32)), (.ref a1)]))
  refine Gl.of (fun _ kq_ => XS.ishr X2.here hx rfl (hb hby d16_41) rfl kq_) ?_
  show Gl p e below _ (T2.setTop (mkF m 42 #[.val (.ref a1), .val (.int (1 : Int32)), .val (.int p3)] [(.int (p3 >>> ((0 : Int32) &&& 31))), (.int (0 : Int32)), (.ref a1)]))
  refine Gl.of (fun _ kq_ => XS.i2b X2.here hx rfl (hb hby d16_42) rfl kq_) ?_
  show Gl p e below _ (T2.setTop (mkF m 43 #[.val (.ref a1), .val (.int (1 : Int32)), .val (.int p3)] [(.int ((p3 >>> ((0 : Int32) &&& 31)).toInt8.toInt32)), (.int (0 : Int32)), (.ref a1)]))
  obtain ⟨zcl3, zAr3, zq3, zS3, zM3, zH3, zG3⟩ := id V1
  obtain ⟨T4, h4, X4, e4, W4, st4⟩ := stB X2 hx hZ e2 zAr3 (j := (0 : Int32)) (inb_of zS3 ⟨by decide, by decide⟩) (g := (mkF m 43 #[.val (.ref a1), .val (.int (1 : Int32)), .val (.int p3)] [(.int ((p3 >>> ((0 : Int32) &&& 31)).toInt8.toInt32)), (.int (0 : Int32)), (.ref a1)])) rfl rfl (hb hby d16_43)
  refine Gl.of st4 ?_
  have V4 : Arv Z h4 a1 kk1 .byte (2 : Int32) [(.int (nar .byte ((p3 >>> ((0 : Int32) &&& 31)).toInt8.toInt32))), (.int y1)] (.int 0) := Arv.set zAr3 zq3 zS3 zM3 zH3 zG3 (fits_nar_byte _) W4 0 rfl (Nat.le_of_ble_eq_true rfl)
  have N4 := Fr.snoc X4 (Fr.nil n0) Ga1
  have O4 := O0.wr W4 Ga1
  have K4 := K0.wr W4 (Or.inl (List.mem_of_getElem? (i := 0) rfl))
  show Gl p e below _ (T4.setTop (mkF m 44 #[.val (.ref a1), .val (.int (1 : Int32)), .val (.int p3)] []))
  refine Gl.of (fun _ kq_ => XS.aloadN X4.here hx rfl (hb hby d16_44) rfl rfl kq_) ?_
  show Gl p e below _ (T4.setTop (mkF m 45 #[.val (.ref a1), .val (.int (1 : Int32)), .val (.int p3)] [(.ref a1)]))
  refine Gl.of (fun _ kq_ => XS.iloadN X4.here hx rfl (hb hby d16_45) rfl kq_) ?_
  show Gl p e below _ (T4.setTop (mkF m 46 #[.val (.ref a1), .val (.int (1 : Int32)), .val (.int p3)] [(.int (1 : Int32)), (.ref a1)]))
  refine Gl.of (fun _ kq_ => XS.iloadN X4.here hx rfl (hb hby d16_46) rfl kq_) ?_
  show Gl p e below _ (T4.setTop (mkF m 47 #[.val (.ref a1), .val (.int (1 : Int32)), .val (.int p3)] [(.int p3), (.int (1 : Int32)), (.ref a1)]))
  obtain ⟨T5, X5, e5, st5⟩ := getS2 X4 hx hZ hown (host := "") (Or.inl (w98 hw)) Via.refl e4 (Sl.ext O4.2) (g := (mkF m 47 #[.val (.ref a1), .val (.int (1 : Int32)), .val (.int p3)] [(.int p3), (.int (1 : Int32)), (.ref a1)])) rfl (hb hby d16_47)
  refine Gl.of st5 ?_
  show Gl p e below _ (T5.setTop (mkF m 50 #[.val (.ref a1), .val (.int (1 : Int32)), .val (.int p3)] [(.int (8 : Int32)), (.int p3), (.int (1 : Int32)), (.ref a1)]))
  refine Gl.of (fun _ kq_ => XS.ishr X5.here hx rfl (hb hby d16_50) rfl kq_) ?_
  show Gl p e below _ (T5.setTop (mkF m 51 #[.val (.ref a1), .val (.int (1 : Int32)), .val (.int p3)] [(.int (p3 >>> ((8 : Int32) &&& 31))), (.int (1 : Int32)), (.ref a1)]))
  refine Gl.of (fun _ kq_ => XS.i2b X5.here hx rfl (hb hby d16_51) rfl kq_) ?_
  show Gl p e below _ (T5.setTop (mkF m 52 #[.val (.ref a1), .val (.int (1 : Int32)), .val (.int p3)] [(.int ((p3 >>> ((8 : Int32) &&& 31)).toInt8.toInt32)), (.int (1 : Int32)), (.ref a1)]))
  obtain ⟨zcl6, zAr6, zq6, zS6, zM6, zH6, zG6⟩ := id V4
  obtain ⟨T7, h7, X7, e7, W7, st7⟩ := stB X5 hx hZ e5 zAr6 (j := (1 : Int32)) (inb_of zS6 ⟨by decide, by decide⟩) (g := (mkF m 52 #[.val (.ref a1), .val (.int (1 : Int32)), .val (.int p3)] [(.int ((p3 >>> ((8 : Int32) &&& 31)).toInt8.toInt32)), (.int (1 : Int32)), (.ref a1)])) rfl rfl (hb hby d16_52)
  refine Gl.of st7 ?_
  have V7 : Arv Z h7 a1 kk1 .byte (2 : Int32) [(.int (nar .byte ((p3 >>> ((0 : Int32) &&& 31)).toInt8.toInt32))), (.int (nar .byte ((p3 >>> ((8 : Int32) &&& 31)).toInt8.toInt32)))] (.int 0) := Arv.set zAr6 zq6 zS6 zM6 zH6 zG6 (fits_nar_byte _) W7 1 rfl (Nat.le_of_ble_eq_true rfl)
  have N7 := Fr.snoc X7 N4 Ga1
  have O7 := O4.wr W7 Ga1
  have K7 := K4.wr W7 (Or.inl (List.mem_of_getElem? (i := 0) rfl))
  show Gl p e below _ (T7.setTop (mkF m 53 #[.val (.ref a1), .val (.int (1 : Int32)), .val (.int p3)] []))
  exact Gl.ret0 X7 hx hlk hret (hb hby d16_53) e7 (⟨rfl, N7, K7, V7⟩) (by decide) (by decide)
theorem ef_2 (m : MethodId) (x0 : Addr) (x1 : Int32) (x2 : Int32) : entryFrame m #[(.ref x0), (.int x1), (.int x2)] 3 = mkF m 0 #[.val (.ref x0), .val (.int x1), .val (.int x2)] [] := by first | (simp [entryFrame, mkF, argsToLocals, Value.category, maxLocals]; done) | rfl
set_option maxRecDepth 65536 in
set_option maxHeartbeats 40000000 in
theorem rmP40 (l : Launch) (Z : State) (a0 : Array Value) (hw : ∀ d ∈ tables_1, d.before a0 Z = true) (h0 : Heap) (a1 : Addr) (kk1 : ClassId) (y0 y1 y2 y3 p3 : Int32) (n0 : Nat) (V1 : Arv Z h0 a1 kk1 .byte (4 : Int32) [.int y0, .int y1, .int y2, .int y3] (.int 0)) (Ga1 : n0 ≤ a1) (Sa : Sta Z Z.heap "java/lang/StringUTF16" "$assertionsDisabled" "Z" (.int 1)) (Sh : Sta Z Z.heap "java/lang/StringUTF16" "HI_BYTE_SHIFT" "I" (.int 0)) (Sl : Sta Z Z.heap "java/lang/StringUTF16" "LO_BYTE_SHIFT" "I" (.int 8)) (O0 : Old Z n0 h0) : Con l Z (⟨"java/lang/StringUTF16", "putChar", "([BII)V"⟩ : MethodName) jdk_52_method_4_code 3 none [] ({ frames := 0, cells := 0, slots := 0, locals := 0 } : Room) 0 0 #[(.ref a1), (.int (0 : Int32)), (.int p3)] h0 (fun v h L => v = none ∧ Fr n0 L ∧ Keep h0 h [a1] ∧ Arv Z h a1 kk1 .byte (4 : Int32) [.int (own_hi p3), .int (own_lo p3), .int y2, .int y3] (.int 0)) := by
  refine Con.intro (plainFor_of_name pn_0) ?_
  intro p e s m below meth c s₁ X0 hx hby hml hZ hown hnm hret hlk e0 hs0
  refine Gl.of (fun _ kq_ => castTop (ef_2 m a1 (0 : Int32) p3) kq_) ?_
  have K0 := Keep.refl h0 [a1]
  show Gl p e below _ (s₁.setTop (mkF m 0 #[.val (.ref a1), .val (.int (0 : Int32)), .val (.int p3)] []))
  obtain ⟨T1, X1, e1, st1⟩ := getS2 X0 hx hZ hown (host := "") (Or.inl (w96 hw)) Via.refl e0 (Sa.ext O0.2) (g := (mkF m 0 #[.val (.ref a1), .val (.int (0 : Int32)), .val (.int p3)] [])) rfl (hb hby d16_0)
  refine Gl.of st1 ?_
  show Gl p e below _ (T1.setTop (mkF m 3 #[.val (.ref a1), .val (.int (0 : Int32)), .val (.int p3)] [(.int (1 : Int32))]))
  refine Gl.of (fun _ kq_ => XS.ifYes X1.here hx rfl (pc0 := 3) (pc' := 28) rfl (hb hby d16_3) rfl ((if0 _ _).trans (feq (by decide : ¬ ((1 : Int32) = (0 : Int32)))).2) (by decide) (by decide) kq_) ?_
  show Gl p e below _ (T1.setTop (mkF m 28 #[.val (.ref a1), .val (.int (0 : Int32)), .val (.int p3)] []))
  refine Gl.of (fun _ kq_ => XS.iloadN X1.here hx rfl (hb hby d16_28) rfl kq_) ?_
  show Gl p e below _ (T1.setTop (mkF m 29 #[.val (.ref a1), .val (.int (0 : Int32)), .val (.int p3)] [(.int (0 : Int32))]))
  refine Gl.of (fun _ kq_ => XS.iconst X1.here hx rfl (hb hby d16_29) kq_) ?_
  show Gl p e below _ (T1.setTop (mkF m 30 #[.val (.ref a1), .val (.int (0 : Int32)), .val (.int p3)] [(.int (1 : Int32)), (.int (0 : Int32))]))
  refine Gl.of (fun _ kq_ => XS.ishl X1.here hx rfl (hb hby d16_30) rfl kq_) ?_
  rw [show ((0 : Int32) <<< ((1 : Int32) &&& 31)) = (0 : Int32) from rfl]
  show Gl p e below _ (T1.setTop (mkF m 31 #[.val (.ref a1), .val (.int (0 : Int32)), .val (.int p3)] [(.int (0 : Int32))]))
  refine Gl.of (fun _ kq_ => XS.istoreN X1.here hx rfl (hb hby d16_31) rfl (l' := #[.val (.ref a1), .val (.int (0 : Int32)), .val (.int p3)]) rfl kq_) ?_
  show Gl p e below _ (T1.setTop (mkF m 32 #[.val (.ref a1), .val (.int (0 : Int32)), .val (.int p3)] []))
  refine Gl.of (fun _ kq_ => XS.aloadN X1.here hx rfl (hb hby d16_32) rfl rfl kq_) ?_
  show Gl p e below _ (T1.setTop (mkF m 33 #[.val (.ref a1), .val (.int (0 : Int32)), .val (.int p3)] [(.ref a1)]))
  refine Gl.of (fun _ kq_ => XS.iloadN X1.here hx rfl (hb hby d16_33) rfl kq_) ?_
  show Gl p e below _ (T1.setTop (mkF m 34 #[.val (.ref a1), .val (.int (0 : Int32)), .val (.int p3)] [(.int (0 : Int32)), (.ref a1)]))
  refine Gl.of (fun _ kq_ => XS.iinc X1.here hx rfl (hb hby d16_34) rfl (l' := #[.val (.ref a1), .val (.int (1 : Int32)), .val (.int p3)]) rfl kq_) ?_
  show Gl p e below _ (T1.setTop (mkF m 37 #[.val (.ref a1), .val (.int (1 : Int32)), .val (.int p3)] [(.int (0 : Int32)), (.ref a1)]))
  refine Gl.of (fun _ kq_ => XS.iloadN X1.here hx rfl (hb hby d16_37) rfl kq_) ?_
  show Gl p e below _ (T1.setTop (mkF m 38 #[.val (.ref a1), .val (.int (1 : Int32)), .val (.int p3)] [(.int p3), (.int (0 : Int32)), (.ref a1)]))
  obtain ⟨T2, X2, e2, st2⟩ := getS2 X1 hx hZ hown (host := "") (Or.inl (w97 hw)) Via.refl e1 (Sh.ext O0.2) (g := (mkF m 38 #[.val (.ref a1), .val (.int (1 : Int32)), .val (.int p3)] [(.int p3), (.int (0 : Int32)), (.ref a1)])) rfl (hb hby d16_38)
  refine Gl.of st2 ?_
  show Gl p e below _ (T2.setTop (mkF m 41 #[.val (.ref a1), .val (.int (1 : Int32)), .val (.int p3)] [(.int (0 : Int32)), (.int p3), (.int (0 : Int32)), (.ref a1)]))
  refine Gl.of (fun _ kq_ => XS.ishr X2.here hx rfl (hb hby d16_41) rfl kq_) ?_
  show Gl p e below _ (T2.setTop (mkF m 42 #[.val (.ref a1), .val (.int (1 : Int32)), .val (.int p3)] [(.int (p3 >>> ((0 : Int32) &&& 31))), (.int (0 : Int32)), (.ref a1)]))
  refine Gl.of (fun _ kq_ => XS.i2b X2.here hx rfl (hb hby d16_42) rfl kq_) ?_
  show Gl p e below _ (T2.setTop (mkF m 43 #[.val (.ref a1), .val (.int (1 : Int32)), .val (.int p3)] [(.int ((p3 >>> ((0 : Int32) &&& 31)).toInt8.toInt32)), (.int (0 : Int32)), (.ref a1)]))
  obtain ⟨zcl3, zAr3, zq3, zS3, zM3, zH3, zG3⟩ := id V1
  obtain ⟨T4, h4, X4, e4, W4, st4⟩ := stB X2 hx hZ e2 zAr3 (j := (0 : Int32)) (inb_of zS3 ⟨by decide, by decide⟩) (g := (mkF m 43 #[.val (.ref a1), .val (.int (1 : Int32)), .val (.int p3)] [(.int ((p3 >>> ((0 : Int32) &&& 31)).toInt8.toInt32)), (.int (0 : Int32)), (.ref a1)])) rfl rfl (hb hby d16_43)
  refine Gl.of st4 ?_
  have V4 : Arv Z h4 a1 kk1 .byte (4 : Int32) [(.int (nar .byte ((p3 >>> ((0 : Int32) &&& 31)).toInt8.toInt32))), (.int y1), (.int y2), (.int y3)] (.int 0) := Arv.set zAr3 zq3 zS3 zM3 zH3 zG3 (fits_nar_byte _) W4 0 rfl (Nat.le_of_ble_eq_true rfl)
  have N4 := Fr.snoc X4 (Fr.nil n0) Ga1
  have O4 := O0.wr W4 Ga1
  have K4 := K0.wr W4 (Or.inl (List.mem_of_getElem? (i := 0) rfl))
  show Gl p e below _ (T4.setTop (mkF m 44 #[.val (.ref a1), .val (.int (1 : Int32)), .val (.int p3)] []))
  refine Gl.of (fun _ kq_ => XS.aloadN X4.here hx rfl (hb hby d16_44) rfl rfl kq_) ?_
  show Gl p e below _ (T4.setTop (mkF m 45 #[.val (.ref a1), .val (.int (1 : Int32)), .val (.int p3)] [(.ref a1)]))
  refine Gl.of (fun _ kq_ => XS.iloadN X4.here hx rfl (hb hby d16_45) rfl kq_) ?_
  show Gl p e below _ (T4.setTop (mkF m 46 #[.val (.ref a1), .val (.int (1 : Int32)), .val (.int p3)] [(.int (1 : Int32)), (.ref a1)]))
  refine Gl.of (fun _ kq_ => XS.iloadN X4.here hx rfl (hb hby d16_46) rfl kq_) ?_
  show Gl p e below _ (T4.setTop (mkF m 47 #[.val (.ref a1), .val (.int (1 : Int32)), .val (.int p3)] [(.int p3), (.int (1 : Int32)), (.ref a1)]))
  obtain ⟨T5, X5, e5, st5⟩ := getS2 X4 hx hZ hown (host := "") (Or.inl (w98 hw)) Via.refl e4 (Sl.ext O4.2) (g := (mkF m 47 #[.val (.ref a1), .val (.int (1 : Int32)), .val (.int p3)] [(.int p3), (.int (1 : Int32)), (.ref a1)])) rfl (hb hby d16_47)
  refine Gl.of st5 ?_
  show Gl p e below _ (T5.setTop (mkF m 50 #[.val (.ref a1), .val (.int (1 : Int32)), .val (.int p3)] [(.int (8 : Int32)), (.int p3), (.int (1 : Int32)), (.ref a1)]))
  refine Gl.of (fun _ kq_ => XS.ishr X5.here hx rfl (hb hby d16_50) rfl kq_) ?_
  show Gl p e below _ (T5.setTop (mkF m 51 #[.val (.ref a1), .val (.int (1 : Int32)), .val (.int p3)] [(.int (p3 >>> ((8 : Int32) &&& 31))), (.int (1 : Int32)), (.ref a1)]))
  refine Gl.of (fun _ kq_ => XS.i2b X5.here hx rfl (hb hby d16_51) rfl kq_) ?_
  show Gl p e below _ (T5.setTop (mkF m 52 #[.val (.ref a1), .val (.int (1 : Int32)), .val (.int p3)] [(.int ((p3 >>> ((8 : Int32) &&& 31)).toInt8.toInt32)), (.int (1 : Int32)), (.ref a1)]))
  obtain ⟨zcl6, zAr6, zq6, zS6, zM6, zH6, zG6⟩ := id V4
  obtain ⟨T7, h7, X7, e7, W7, st7⟩ := stB X5 hx hZ e5 zAr6 (j := (1 : Int32)) (inb_of zS6 ⟨by decide, by decide⟩) (g := (mkF m 52 #[.val (.ref a1), .val (.int (1 : Int32)), .val (.int p3)] [(.int ((p3 >>> ((8 : Int32) &&& 31)).toInt8.toInt32)), (.int (1 : Int32)), (.ref a1)])) rfl rfl (hb hby d16_52)
  refine Gl.of st7 ?_
  have V7 : Arv Z h7 a1 kk1 .byte (4 : Int32) [(.int (nar .byte ((p3 >>> ((0 : Int32) &&& 31)).toInt8.toInt32))), (.int (nar .byte ((p3 >>> ((8 : Int32) &&& 31)).toInt8.toInt32))), (.int y2), (.int y3)] (.int 0) := Arv.set zAr6 zq6 zS6 zM6 zH6 zG6 (fits_nar_byte _) W7 1 rfl (Nat.le_of_ble_eq_true rfl)
  have N7 := Fr.snoc X7 N4 Ga1
  have O7 := O4.wr W7 Ga1
  have K7 := K4.wr W7 (Or.inl (List.mem_of_getElem? (i := 0) rfl))
  show Gl p e below _ (T7.setTop (mkF m 53 #[.val (.ref a1), .val (.int (1 : Int32)), .val (.int p3)] []))
  exact Gl.ret0 X7 hx hlk hret (hb hby d16_53) e7 (⟨rfl, N7, K7, V7⟩) (by decide) (by decide)
theorem ef_3 (m : MethodId) (x0 : Addr) (x1 : Int32) (x2 : Int32) : entryFrame m #[(.ref x0), (.int x1), (.int x2)] 3 = mkF m 0 #[.val (.ref x0), .val (.int x1), .val (.int x2)] [] := by first | (simp [entryFrame, mkF, argsToLocals, Value.category, maxLocals]; done) | rfl
set_option maxRecDepth 65536 in
set_option maxHeartbeats 40000000 in
theorem rmP41 (l : Launch) (Z : State) (a0 : Array Value) (hw : ∀ d ∈ tables_1, d.before a0 Z = true) (h0 : Heap) (a1 : Addr) (kk1 : ClassId) (y0 y1 y2 y3 p3 : Int32) (n0 : Nat) (V1 : Arv Z h0 a1 kk1 .byte (4 : Int32) [.int y0, .int y1, .int y2, .int y3] (.int 0)) (Ga1 : n0 ≤ a1) (Sa : Sta Z Z.heap "java/lang/StringUTF16" "$assertionsDisabled" "Z" (.int 1)) (Sh : Sta Z Z.heap "java/lang/StringUTF16" "HI_BYTE_SHIFT" "I" (.int 0)) (Sl : Sta Z Z.heap "java/lang/StringUTF16" "LO_BYTE_SHIFT" "I" (.int 8)) (O0 : Old Z n0 h0) : Con l Z (⟨"java/lang/StringUTF16", "putChar", "([BII)V"⟩ : MethodName) jdk_52_method_4_code 3 none [] ({ frames := 0, cells := 0, slots := 0, locals := 0 } : Room) 0 0 #[(.ref a1), (.int (1 : Int32)), (.int p3)] h0 (fun v h L => v = none ∧ Fr n0 L ∧ Keep h0 h [a1] ∧ Arv Z h a1 kk1 .byte (4 : Int32) [.int y0, .int y1, .int (own_hi p3), .int (own_lo p3)] (.int 0)) := by
  refine Con.intro (plainFor_of_name pn_0) ?_
  intro p e s m below meth c s₁ X0 hx hby hml hZ hown hnm hret hlk e0 hs0
  refine Gl.of (fun _ kq_ => castTop (ef_3 m a1 (1 : Int32) p3) kq_) ?_
  have K0 := Keep.refl h0 [a1]
  show Gl p e below _ (s₁.setTop (mkF m 0 #[.val (.ref a1), .val (.int (1 : Int32)), .val (.int p3)] []))
  obtain ⟨T1, X1, e1, st1⟩ := getS2 X0 hx hZ hown (host := "") (Or.inl (w96 hw)) Via.refl e0 (Sa.ext O0.2) (g := (mkF m 0 #[.val (.ref a1), .val (.int (1 : Int32)), .val (.int p3)] [])) rfl (hb hby d16_0)
  refine Gl.of st1 ?_
  show Gl p e below _ (T1.setTop (mkF m 3 #[.val (.ref a1), .val (.int (1 : Int32)), .val (.int p3)] [(.int (1 : Int32))]))
  refine Gl.of (fun _ kq_ => XS.ifYes X1.here hx rfl (pc0 := 3) (pc' := 28) rfl (hb hby d16_3) rfl ((if0 _ _).trans (feq (by decide : ¬ ((1 : Int32) = (0 : Int32)))).2) (by decide) (by decide) kq_) ?_
  show Gl p e below _ (T1.setTop (mkF m 28 #[.val (.ref a1), .val (.int (1 : Int32)), .val (.int p3)] []))
  refine Gl.of (fun _ kq_ => XS.iloadN X1.here hx rfl (hb hby d16_28) rfl kq_) ?_
  show Gl p e below _ (T1.setTop (mkF m 29 #[.val (.ref a1), .val (.int (1 : Int32)), .val (.int p3)] [(.int (1 : Int32))]))
  refine Gl.of (fun _ kq_ => XS.iconst X1.here hx rfl (hb hby d16_29) kq_) ?_
  show Gl p e below _ (T1.setTop (mkF m 30 #[.val (.ref a1), .val (.int (1 : Int32)), .val (.int p3)] [(.int (1 : Int32)), (.int (1 : Int32))]))
  refine Gl.of (fun _ kq_ => XS.ishl X1.here hx rfl (hb hby d16_30) rfl kq_) ?_
  rw [show ((1 : Int32) <<< ((1 : Int32) &&& 31)) = (2 : Int32) from rfl]
  show Gl p e below _ (T1.setTop (mkF m 31 #[.val (.ref a1), .val (.int (1 : Int32)), .val (.int p3)] [(.int (2 : Int32))]))
  refine Gl.of (fun _ kq_ => XS.istoreN X1.here hx rfl (hb hby d16_31) rfl (l' := #[.val (.ref a1), .val (.int (2 : Int32)), .val (.int p3)]) rfl kq_) ?_
  show Gl p e below _ (T1.setTop (mkF m 32 #[.val (.ref a1), .val (.int (2 : Int32)), .val (.int p3)] []))
  refine Gl.of (fun _ kq_ => XS.aloadN X1.here hx rfl (hb hby d16_32) rfl rfl kq_) ?_
  show Gl p e below _ (T1.setTop (mkF m 33 #[.val (.ref a1), .val (.int (2 : Int32)), .val (.int p3)] [(.ref a1)]))
  refine Gl.of (fun _ kq_ => XS.iloadN X1.here hx rfl (hb hby d16_33) rfl kq_) ?_
  show Gl p e below _ (T1.setTop (mkF m 34 #[.val (.ref a1), .val (.int (2 : Int32)), .val (.int p3)] [(.int (2 : Int32)), (.ref a1)]))
  refine Gl.of (fun _ kq_ => XS.iinc X1.here hx rfl (hb hby d16_34) rfl (l' := #[.val (.ref a1), .val (.int (3 : Int32)), .val (.int p3)]) rfl kq_) ?_
  show Gl p e below _ (T1.setTop (mkF m 37 #[.val (.ref a1), .val (.int (3 : Int32)), .val (.int p3)] [(.int (2 : Int32)), (.ref a1)]))
  refine Gl.of (fun _ kq_ => XS.iloadN X1.here hx rfl (hb hby d16_37) rfl kq_) ?_
  show Gl p e below _ (T1.setTop (mkF m 38 #[.val (.ref a1), .val (.int (3 : Int32)), .val (.int p3)] [(.int p3), (.int (2 : Int32)), (.ref a1)]))
  obtain ⟨T2, X2, e2, st2⟩ := getS2 X1 hx hZ hown (host := "") (Or.inl (w97 hw)) Via.refl e1 (Sh.ext O0.2) (g := (mkF m 38 #[.val (.ref a1), .val (.int (3 : Int32)), .val (.int p3)] [(.int p3), (.int (2 : Int32)), (.ref a1)])) rfl (hb hby d16_38)
  refine Gl.of st2 ?_
  show Gl p e below _ (T2.setTop (mkF m 41 #[.val (.ref a1), .val (.int (3 : Int32)), .val (.int p3)] [(.int (0 : Int32)), (.int p3), (.int (2 : Int32)), (.ref a1)]))
  refine Gl.of (fun _ kq_ => XS.ishr X2.here hx rfl (hb hby d16_41) rfl kq_) ?_
  show Gl p e below _ (T2.setTop (mkF m 42 #[.val (.ref a1), .val (.int (3 : Int32)), .val (.int p3)] [(.int (p3 >>> ((0 : Int32) &&& 31))), (.int (2 : Int32)), (.ref a1)]))
  refine Gl.of (fun _ kq_ => XS.i2b X2.here hx rfl (hb hby d16_42) rfl kq_) ?_
  show Gl p e below _ (T2.setTop (mkF m 43 #[.val (.ref a1), .val (.int (3 : Int32)), .val (.int p3)] [(.int ((p3 >>> ((0 : Int32) &&& 31)).toInt8.toInt32)), (.int (2 : Int32)), (.ref a1)]))
  obtain ⟨zcl3, zAr3, zq3, zS3, zM3, zH3, zG3⟩ := id V1
  obtain ⟨T4, h4, X4, e4, W4, st4⟩ := stB X2 hx hZ e2 zAr3 (j := (2 : Int32)) (inb_of zS3 ⟨by decide, by decide⟩) (g := (mkF m 43 #[.val (.ref a1), .val (.int (3 : Int32)), .val (.int p3)] [(.int ((p3 >>> ((0 : Int32) &&& 31)).toInt8.toInt32)), (.int (2 : Int32)), (.ref a1)])) rfl rfl (hb hby d16_43)
  refine Gl.of st4 ?_
  have V4 : Arv Z h4 a1 kk1 .byte (4 : Int32) [(.int y0), (.int y1), (.int (nar .byte ((p3 >>> ((0 : Int32) &&& 31)).toInt8.toInt32))), (.int y3)] (.int 0) := Arv.set zAr3 zq3 zS3 zM3 zH3 zG3 (fits_nar_byte _) W4 2 rfl (Nat.le_of_ble_eq_true rfl)
  have N4 := Fr.snoc X4 (Fr.nil n0) Ga1
  have O4 := O0.wr W4 Ga1
  have K4 := K0.wr W4 (Or.inl (List.mem_of_getElem? (i := 0) rfl))
  show Gl p e below _ (T4.setTop (mkF m 44 #[.val (.ref a1), .val (.int (3 : Int32)), .val (.int p3)] []))
  refine Gl.of (fun _ kq_ => XS.aloadN X4.here hx rfl (hb hby d16_44) rfl rfl kq_) ?_
  show Gl p e below _ (T4.setTop (mkF m 45 #[.val (.ref a1), .val (.int (3 : Int32)), .val (.int p3)] [(.ref a1)]))
  refine Gl.of (fun _ kq_ => XS.iloadN X4.here hx rfl (hb hby d16_45) rfl kq_) ?_
  show Gl p e below _ (T4.setTop (mkF m 46 #[.val (.ref a1), .val (.int (3 : Int32)), .val (.int p3)] [(.int (3 : Int32)), (.ref a1)]))
  refine Gl.of (fun _ kq_ => XS.iloadN X4.here hx rfl (hb hby d16_46) rfl kq_) ?_
  show Gl p e below _ (T4.setTop (mkF m 47 #[.val (.ref a1), .val (.int (3 : Int32)), .val (.int p3)] [(.int p3), (.int (3 : Int32)), (.ref a1)]))
  obtain ⟨T5, X5, e5, st5⟩ := getS2 X4 hx hZ hown (host := "") (Or.inl (w98 hw)) Via.refl e4 (Sl.ext O4.2) (g := (mkF m 47 #[.val (.ref a1), .val (.int (3 : Int32)), .val (.int p3)] [(.int p3), (.int (3 : Int32)), (.ref a1)])) rfl (hb hby d16_47)
  refine Gl.of st5 ?_
  show Gl p e below _ (T5.setTop (mkF m 50 #[.val (.ref a1), .val (.int (3 : Int32)), .val (.int p3)] [(.int (8 : Int32)), (.int p3), (.int (3 : Int32)), (.ref a1)]))
  refine Gl.of (fun _ kq_ => XS.ishr X5.here hx rfl (hb hby d16_50) rfl kq_) ?_
  show Gl p e below _ (T5.setTop (mkF m 51 #[.val (.ref a1), .val (.int (3 : Int32)), .val (.int p3)] [(.int (p3 >>> ((8 : Int32) &&& 31))), (.int (3 : Int32)), (.ref a1)]))
  refine Gl.of (fun _ kq_ => XS.i2b X5.here hx rfl (hb hby d16_51) rfl kq_) ?_
  show Gl p e below _ (T5.setTop (mkF m 52 #[.val (.ref a1), .val (.int (3 : Int32)), .val (.int p3)] [(.int ((p3 >>> ((8 : Int32) &&& 31)).toInt8.toInt32)), (.int (3 : Int32)), (.ref a1)]))
  obtain ⟨zcl6, zAr6, zq6, zS6, zM6, zH6, zG6⟩ := id V4
  obtain ⟨T7, h7, X7, e7, W7, st7⟩ := stB X5 hx hZ e5 zAr6 (j := (3 : Int32)) (inb_of zS6 ⟨by decide, by decide⟩) (g := (mkF m 52 #[.val (.ref a1), .val (.int (3 : Int32)), .val (.int p3)] [(.int ((p3 >>> ((8 : Int32) &&& 31)).toInt8.toInt32)), (.int (3 : Int32)), (.ref a1)])) rfl rfl (hb hby d16_52)
  refine Gl.of st7 ?_
  have V7 : Arv Z h7 a1 kk1 .byte (4 : Int32) [(.int y0), (.int y1), (.int (nar .byte ((p3 >>> ((0 : Int32) &&& 31)).toInt8.toInt32))), (.int (nar .byte ((p3 >>> ((8 : Int32) &&& 31)).toInt8.toInt32)))] (.int 0) := Arv.set zAr6 zq6 zS6 zM6 zH6 zG6 (fits_nar_byte _) W7 3 rfl (Nat.le_of_ble_eq_true rfl)
  have N7 := Fr.snoc X7 N4 Ga1
  have O7 := O4.wr W7 Ga1
  have K7 := K4.wr W7 (Or.inl (List.mem_of_getElem? (i := 0) rfl))
  show Gl p e below _ (T7.setTop (mkF m 53 #[.val (.ref a1), .val (.int (3 : Int32)), .val (.int p3)] []))
  exact Gl.ret0 X7 hx hlk hret (hb hby d16_53) e7 (⟨rfl, N7, K7, V7⟩) (by decide) (by decide)
theorem ef_4 (m : MethodId) (x0 : Addr) (x1 : Int32) (x2 : Int32) : entryFrame m #[(.ref x0), (.int x1), (.int x2)] 3 = mkF m 0 #[.val (.ref x0), .val (.int x1), .val (.int x2)] [] := by first | (simp [entryFrame, mkF, argsToLocals, Value.category, maxLocals]; done) | rfl
set_option maxRecDepth 65536 in
set_option maxHeartbeats 40000000 in
theorem rmP60 (l : Launch) (Z : State) (a0 : Array Value) (hw : ∀ d ∈ tables_1, d.before a0 Z = true) (h0 : Heap) (a1 : Addr) (kk1 : ClassId) (y0 y1 y2 y3 y4 y5 p3 : Int32) (n0 : Nat) (V1 : Arv Z h0 a1 kk1 .byte (6 : Int32) [.int y0, .int y1, .int y2, .int y3, .int y4, .int y5] (.int 0)) (Ga1 : n0 ≤ a1) (Sa : Sta Z Z.heap "java/lang/StringUTF16" "$assertionsDisabled" "Z" (.int 1)) (Sh : Sta Z Z.heap "java/lang/StringUTF16" "HI_BYTE_SHIFT" "I" (.int 0)) (Sl : Sta Z Z.heap "java/lang/StringUTF16" "LO_BYTE_SHIFT" "I" (.int 8)) (O0 : Old Z n0 h0) : Con l Z (⟨"java/lang/StringUTF16", "putChar", "([BII)V"⟩ : MethodName) jdk_52_method_4_code 3 none [] ({ frames := 0, cells := 0, slots := 0, locals := 0 } : Room) 0 0 #[(.ref a1), (.int (0 : Int32)), (.int p3)] h0 (fun v h L => v = none ∧ Fr n0 L ∧ Keep h0 h [a1] ∧ Arv Z h a1 kk1 .byte (6 : Int32) [.int (own_hi p3), .int (own_lo p3), .int y2, .int y3, .int y4, .int y5] (.int 0)) := by
  refine Con.intro (plainFor_of_name pn_0) ?_
  intro p e s m below meth c s₁ X0 hx hby hml hZ hown hnm hret hlk e0 hs0
  refine Gl.of (fun _ kq_ => castTop (ef_4 m a1 (0 : Int32) p3) kq_) ?_
  have K0 := Keep.refl h0 [a1]
  show Gl p e below _ (s₁.setTop (mkF m 0 #[.val (.ref a1), .val (.int (0 : Int32)), .val (.int p3)] []))
  obtain ⟨T1, X1, e1, st1⟩ := getS2 X0 hx hZ hown (host := "") (Or.inl (w96 hw)) Via.refl e0 (Sa.ext O0.2) (g := (mkF m 0 #[.val (.ref a1), .val (.int (0 : Int32)), .val (.int p3)] [])) rfl (hb hby d16_0)
  refine Gl.of st1 ?_
  show Gl p e below _ (T1.setTop (mkF m 3 #[.val (.ref a1), .val (.int (0 : Int32)), .val (.int p3)] [(.int (1 : Int32))]))
  refine Gl.of (fun _ kq_ => XS.ifYes X1.here hx rfl (pc0 := 3) (pc' := 28) rfl (hb hby d16_3) rfl ((if0 _ _).trans (feq (by decide : ¬ ((1 : Int32) = (0 : Int32)))).2) (by decide) (by decide) kq_) ?_
  show Gl p e below _ (T1.setTop (mkF m 28 #[.val (.ref a1), .val (.int (0 : Int32)), .val (.int p3)] []))
  refine Gl.of (fun _ kq_ => XS.iloadN X1.here hx rfl (hb hby d16_28) rfl kq_) ?_
  show Gl p e below _ (T1.setTop (mkF m 29 #[.val (.ref a1), .val (.int (0 : Int32)), .val (.int p3)] [(.int (0 : Int32))]))
  refine Gl.of (fun _ kq_ => XS.iconst X1.here hx rfl (hb hby d16_29) kq_) ?_
  show Gl p e below _ (T1.setTop (mkF m 30 #[.val (.ref a1), .val (.int (0 : Int32)), .val (.int p3)] [(.int (1 : Int32)), (.int (0 : Int32))]))
  refine Gl.of (fun _ kq_ => XS.ishl X1.here hx rfl (hb hby d16_30) rfl kq_) ?_
  rw [show ((0 : Int32) <<< ((1 : Int32) &&& 31)) = (0 : Int32) from rfl]
  show Gl p e below _ (T1.setTop (mkF m 31 #[.val (.ref a1), .val (.int (0 : Int32)), .val (.int p3)] [(.int (0 : Int32))]))
  refine Gl.of (fun _ kq_ => XS.istoreN X1.here hx rfl (hb hby d16_31) rfl (l' := #[.val (.ref a1), .val (.int (0 : Int32)), .val (.int p3)]) rfl kq_) ?_
  show Gl p e below _ (T1.setTop (mkF m 32 #[.val (.ref a1), .val (.int (0 : Int32)), .val (.int p3)] []))
  refine Gl.of (fun _ kq_ => XS.aloadN X1.here hx rfl (hb hby d16_32) rfl rfl kq_) ?_
  show Gl p e below _ (T1.setTop (mkF m 33 #[.val (.ref a1), .val (.int (0 : Int32)), .val (.int p3)] [(.ref a1)]))
  refine Gl.of (fun _ kq_ => XS.iloadN X1.here hx rfl (hb hby d16_33) rfl kq_) ?_
  show Gl p e below _ (T1.setTop (mkF m 34 #[.val (.ref a1), .val (.int (0 : Int32)), .val (.int p3)] [(.int (0 : Int32)), (.ref a1)]))
  refine Gl.of (fun _ kq_ => XS.iinc X1.here hx rfl (hb hby d16_34) rfl (l' := #[.val (.ref a1), .val (.int (1 : Int32)), .val (.int p3)]) rfl kq_) ?_
  show Gl p e below _ (T1.setTop (mkF m 37 #[.val (.ref a1), .val (.int (1 : Int32)), .val (.int p3)] [(.int (0 : Int32)), (.ref a1)]))
  refine Gl.of (fun _ kq_ => XS.iloadN X1.here hx rfl (hb hby d16_37) rfl kq_) ?_
  show Gl p e below _ (T1.setTop (mkF m 38 #[.val (.ref a1), .val (.int (1 : Int32)), .val (.int p3)] [(.int p3), (.int (0 : Int32)), (.ref a1)]))
  obtain ⟨T2, X2, e2, st2⟩ := getS2 X1 hx hZ hown (host := "") (Or.inl (w97 hw)) Via.refl e1 (Sh.ext O0.2) (g := (mkF m 38 #[.val (.ref a1), .val (.int (1 : Int32)), .val (.int p3)] [(.int p3), (.int (0 : Int32)), (.ref a1)])) rfl (hb hby d16_38)
  refine Gl.of st2 ?_
  show Gl p e below _ (T2.setTop (mkF m 41 #[.val (.ref a1), .val (.int (1 : Int32)), .val (.int p3)] [(.int (0 : Int32)), (.int p3), (.int (0 : Int32)), (.ref a1)]))
  refine Gl.of (fun _ kq_ => XS.ishr X2.here hx rfl (hb hby d16_41) rfl kq_) ?_
  show Gl p e below _ (T2.setTop (mkF m 42 #[.val (.ref a1), .val (.int (1 : Int32)), .val (.int p3)] [(.int (p3 >>> ((0 : Int32) &&& 31))), (.int (0 : Int32)), (.ref a1)]))
  refine Gl.of (fun _ kq_ => XS.i2b X2.here hx rfl (hb hby d16_42) rfl kq_) ?_
  show Gl p e below _ (T2.setTop (mkF m 43 #[.val (.ref a1), .val (.int (1 : Int32)), .val (.int p3)] [(.int ((p3 >>> ((0 : Int32) &&& 31)).toInt8.toInt32)), (.int (0 : Int32)), (.ref a1)]))
  obtain ⟨zcl3, zAr3, zq3, zS3, zM3, zH3, zG3⟩ := id V1
  obtain ⟨T4, h4, X4, e4, W4, st4⟩ := stB X2 hx hZ e2 zAr3 (j := (0 : Int32)) (inb_of zS3 ⟨by decide, by decide⟩) (g := (mkF m 43 #[.val (.ref a1), .val (.int (1 : Int32)), .val (.int p3)] [(.int ((p3 >>> ((0 : Int32) &&& 31)).toInt8.toInt32)), (.int (0 : Int32)), (.ref a1)])) rfl rfl (hb hby d16_43)
  refine Gl.of st4 ?_
  have V4 : Arv Z h4 a1 kk1 .byte (6 : Int32) [(.int (nar .byte ((p3 >>> ((0 : Int32) &&& 31)).toInt8.toInt32))), (.int y1), (.int y2), (.int y3), (.int y4), (.int y5)] (.int 0) := Arv.set zAr3 zq3 zS3 zM3 zH3 zG3 (fits_nar_byte _) W4 0 rfl (Nat.le_of_ble_eq_true rfl)
  have N4 := Fr.snoc X4 (Fr.nil n0) Ga1
  have O4 := O0.wr W4 Ga1
  have K4 := K0.wr W4 (Or.inl (List.mem_of_getElem? (i := 0) rfl))
  show Gl p e below _ (T4.setTop (mkF m 44 #[.val (.ref a1), .val (.int (1 : Int32)), .val (.int p3)] []))
  refine Gl.of (fun _ kq_ => XS.aloadN X4.here hx rfl (hb hby d16_44) rfl rfl kq_) ?_
  show Gl p e below _ (T4.setTop (mkF m 45 #[.val (.ref a1), .val (.int (1 : Int32)), .val (.int p3)] [(.ref a1)]))
  refine Gl.of (fun _ kq_ => XS.iloadN X4.here hx rfl (hb hby d16_45) rfl kq_) ?_
  show Gl p e below _ (T4.setTop (mkF m 46 #[.val (.ref a1), .val (.int (1 : Int32)), .val (.int p3)] [(.int (1 : Int32)), (.ref a1)]))
  refine Gl.of (fun _ kq_ => XS.iloadN X4.here hx rfl (hb hby d16_46) rfl kq_) ?_
  show Gl p e below _ (T4.setTop (mkF m 47 #[.val (.ref a1), .val (.int (1 : Int32)), .val (.int p3)] [(.int p3), (.int (1 : Int32)), (.ref a1)]))
  obtain ⟨T5, X5, e5, st5⟩ := getS2 X4 hx hZ hown (host := "") (Or.inl (w98 hw)) Via.refl e4 (Sl.ext O4.2) (g := (mkF m 47 #[.val (.ref a1), .val (.int (1 : Int32)), .val (.int p3)] [(.int p3), (.int (1 : Int32)), (.ref a1)])) rfl (hb hby d16_47)
  refine Gl.of st5 ?_
  show Gl p e below _ (T5.setTop (mkF m 50 #[.val (.ref a1), .val (.int (1 : Int32)), .val (.int p3)] [(.int (8 : Int32)), (.int p3), (.int (1 : Int32)), (.ref a1)]))
  refine Gl.of (fun _ kq_ => XS.ishr X5.here hx rfl (hb hby d16_50) rfl kq_) ?_
  show Gl p e below _ (T5.setTop (mkF m 51 #[.val (.ref a1), .val (.int (1 : Int32)), .val (.int p3)] [(.int (p3 >>> ((8 : Int32) &&& 31))), (.int (1 : Int32)), (.ref a1)]))
  refine Gl.of (fun _ kq_ => XS.i2b X5.here hx rfl (hb hby d16_51) rfl kq_) ?_
  show Gl p e below _ (T5.setTop (mkF m 52 #[.val (.ref a1), .val (.int (1 : Int32)), .val (.int p3)] [(.int ((p3 >>> ((8 : Int32) &&& 31)).toInt8.toInt32)), (.int (1 : Int32)), (.ref a1)]))
  obtain ⟨zcl6, zAr6, zq6, zS6, zM6, zH6, zG6⟩ := id V4
  obtain ⟨T7, h7, X7, e7, W7, st7⟩ := stB X5 hx hZ e5 zAr6 (j := (1 : Int32)) (inb_of zS6 ⟨by decide, by decide⟩) (g := (mkF m 52 #[.val (.ref a1), .val (.int (1 : Int32)), .val (.int p3)] [(.int ((p3 >>> ((8 : Int32) &&& 31)).toInt8.toInt32)), (.int (1 : Int32)), (.ref a1)])) rfl rfl (hb hby d16_52)
  refine Gl.of st7 ?_
  have V7 : Arv Z h7 a1 kk1 .byte (6 : Int32) [(.int (nar .byte ((p3 >>> ((0 : Int32) &&& 31)).toInt8.toInt32))), (.int (nar .byte ((p3 >>> ((8 : Int32) &&& 31)).toInt8.toInt32))), (.int y2), (.int y3), (.int y4), (.int y5)] (.int 0) := Arv.set zAr6 zq6 zS6 zM6 zH6 zG6 (fits_nar_byte _) W7 1 rfl (Nat.le_of_ble_eq_true rfl)
  have N7 := Fr.snoc X7 N4 Ga1
  have O7 := O4.wr W7 Ga1
  have K7 := K4.wr W7 (Or.inl (List.mem_of_getElem? (i := 0) rfl))
  show Gl p e below _ (T7.setTop (mkF m 53 #[.val (.ref a1), .val (.int (1 : Int32)), .val (.int p3)] []))
  exact Gl.ret0 X7 hx hlk hret (hb hby d16_53) e7 (⟨rfl, N7, K7, V7⟩) (by decide) (by decide)
theorem ef_5 (m : MethodId) (x0 : Addr) (x1 : Int32) (x2 : Int32) : entryFrame m #[(.ref x0), (.int x1), (.int x2)] 3 = mkF m 0 #[.val (.ref x0), .val (.int x1), .val (.int x2)] [] := by first | (simp [entryFrame, mkF, argsToLocals, Value.category, maxLocals]; done) | rfl
set_option maxRecDepth 65536 in
set_option maxHeartbeats 40000000 in
theorem rmP61 (l : Launch) (Z : State) (a0 : Array Value) (hw : ∀ d ∈ tables_1, d.before a0 Z = true) (h0 : Heap) (a1 : Addr) (kk1 : ClassId) (y0 y1 y2 y3 y4 y5 p3 : Int32) (n0 : Nat) (V1 : Arv Z h0 a1 kk1 .byte (6 : Int32) [.int y0, .int y1, .int y2, .int y3, .int y4, .int y5] (.int 0)) (Ga1 : n0 ≤ a1) (Sa : Sta Z Z.heap "java/lang/StringUTF16" "$assertionsDisabled" "Z" (.int 1)) (Sh : Sta Z Z.heap "java/lang/StringUTF16" "HI_BYTE_SHIFT" "I" (.int 0)) (Sl : Sta Z Z.heap "java/lang/StringUTF16" "LO_BYTE_SHIFT" "I" (.int 8)) (O0 : Old Z n0 h0) : Con l Z (⟨"java/lang/StringUTF16", "putChar", "([BII)V"⟩ : MethodName) jdk_52_method_4_code 3 none [] ({ frames := 0, cells := 0, slots := 0, locals := 0 } : Room) 0 0 #[(.ref a1), (.int (1 : Int32)), (.int p3)] h0 (fun v h L => v = none ∧ Fr n0 L ∧ Keep h0 h [a1] ∧ Arv Z h a1 kk1 .byte (6 : Int32) [.int y0, .int y1, .int (own_hi p3), .int (own_lo p3), .int y4, .int y5] (.int 0)) := by
  refine Con.intro (plainFor_of_name pn_0) ?_
  intro p e s m below meth c s₁ X0 hx hby hml hZ hown hnm hret hlk e0 hs0
  refine Gl.of (fun _ kq_ => castTop (ef_5 m a1 (1 : Int32) p3) kq_) ?_
  have K0 := Keep.refl h0 [a1]
  show Gl p e below _ (s₁.setTop (mkF m 0 #[.val (.ref a1), .val (.int (1 : Int32)), .val (.int p3)] []))
  obtain ⟨T1, X1, e1, st1⟩ := getS2 X0 hx hZ hown (host := "") (Or.inl (w96 hw)) Via.refl e0 (Sa.ext O0.2) (g := (mkF m 0 #[.val (.ref a1), .val (.int (1 : Int32)), .val (.int p3)] [])) rfl (hb hby d16_0)
  refine Gl.of st1 ?_
  show Gl p e below _ (T1.setTop (mkF m 3 #[.val (.ref a1), .val (.int (1 : Int32)), .val (.int p3)] [(.int (1 : Int32))]))
  refine Gl.of (fun _ kq_ => XS.ifYes X1.here hx rfl (pc0 := 3) (pc' := 28) rfl (hb hby d16_3) rfl ((if0 _ _).trans (feq (by decide : ¬ ((1 : Int32) = (0 : Int32)))).2) (by decide) (by decide) kq_) ?_
  show Gl p e below _ (T1.setTop (mkF m 28 #[.val (.ref a1), .val (.int (1 : Int32)), .val (.int p3)] []))
  refine Gl.of (fun _ kq_ => XS.iloadN X1.here hx rfl (hb hby d16_28) rfl kq_) ?_
  show Gl p e below _ (T1.setTop (mkF m 29 #[.val (.ref a1), .val (.int (1 : Int32)), .val (.int p3)] [(.int (1 : Int32))]))
  refine Gl.of (fun _ kq_ => XS.iconst X1.here hx rfl (hb hby d16_29) kq_) ?_
  show Gl p e below _ (T1.setTop (mkF m 30 #[.val (.ref a1), .val (.int (1 : Int32)), .val (.int p3)] [(.int (1 : Int32)), (.int (1 : Int32))]))
  refine Gl.of (fun _ kq_ => XS.ishl X1.here hx rfl (hb hby d16_30) rfl kq_) ?_
  rw [show ((1 : Int32) <<< ((1 : Int32) &&& 31)) = (2 : Int32) from rfl]
  show Gl p e below _ (T1.setTop (mkF m 31 #[.val (.ref a1), .val (.int (1 : Int32)), .val (.int p3)] [(.int (2 : Int32))]))
  refine Gl.of (fun _ kq_ => XS.istoreN X1.here hx rfl (hb hby d16_31) rfl (l' := #[.val (.ref a1), .val (.int (2 : Int32)), .val (.int p3)]) rfl kq_) ?_
  show Gl p e below _ (T1.setTop (mkF m 32 #[.val (.ref a1), .val (.int (2 : Int32)), .val (.int p3)] []))
  refine Gl.of (fun _ kq_ => XS.aloadN X1.here hx rfl (hb hby d16_32) rfl rfl kq_) ?_
  show Gl p e below _ (T1.setTop (mkF m 33 #[.val (.ref a1), .val (.int (2 : Int32)), .val (.int p3)] [(.ref a1)]))
  refine Gl.of (fun _ kq_ => XS.iloadN X1.here hx rfl (hb hby d16_33) rfl kq_) ?_
  show Gl p e below _ (T1.setTop (mkF m 34 #[.val (.ref a1), .val (.int (2 : Int32)), .val (.int p3)] [(.int (2 : Int32)), (.ref a1)]))
  refine Gl.of (fun _ kq_ => XS.iinc X1.here hx rfl (hb hby d16_34) rfl (l' := #[.val (.ref a1), .val (.int (3 : Int32)), .val (.int p3)]) rfl kq_) ?_
  show Gl p e below _ (T1.setTop (mkF m 37 #[.val (.ref a1), .val (.int (3 : Int32)), .val (.int p3)] [(.int (2 : Int32)), (.ref a1)]))
  refine Gl.of (fun _ kq_ => XS.iloadN X1.here hx rfl (hb hby d16_37) rfl kq_) ?_
  show Gl p e below _ (T1.setTop (mkF m 38 #[.val (.ref a1), .val (.int (3 : Int32)), .val (.int p3)] [(.int p3), (.int (2 : Int32)), (.ref a1)]))
  obtain ⟨T2, X2, e2, st2⟩ := getS2 X1 hx hZ hown (host := "") (Or.inl (w97 hw)) Via.refl e1 (Sh.ext O0.2) (g := (mkF m 38 #[.val (.ref a1), .val (.int (3 : Int32)), .val (.int p3)] [(.int p3), (.int (2 : Int32)), (.ref a1)])) rfl (hb hby d16_38)
  refine Gl.of st2 ?_
  show Gl p e below _ (T2.setTop (mkF m 41 #[.val (.ref a1), .val (.int (3 : Int32)), .val (.int p3)] [(.int (0 : Int32)), (.int p3), (.int (2 : Int32)), (.ref a1)]))
  refine Gl.of (fun _ kq_ => XS.ishr X2.here hx rfl (hb hby d16_41) rfl kq_) ?_
  show Gl p e below _ (T2.setTop (mkF m 42 #[.val (.ref a1), .val (.int (3 : Int32)), .val (.int p3)] [(.int (p3 >>> ((0 : Int32) &&& 31))), (.int (2 : Int32)), (.ref a1)]))
  refine Gl.of (fun _ kq_ => XS.i2b X2.here hx rfl (hb hby d16_42) rfl kq_) ?_
  show Gl p e below _ (T2.setTop (mkF m 43 #[.val (.ref a1), .val (.int (3 : Int32)), .val (.int p3)] [(.int ((p3 >>> ((0 : Int32) &&& 31)).toInt8.toInt32)), (.int (2 : Int32)), (.ref a1)]))
  obtain ⟨zcl3, zAr3, zq3, zS3, zM3, zH3, zG3⟩ := id V1
  obtain ⟨T4, h4, X4, e4, W4, st4⟩ := stB X2 hx hZ e2 zAr3 (j := (2 : Int32)) (inb_of zS3 ⟨by decide, by decide⟩) (g := (mkF m 43 #[.val (.ref a1), .val (.int (3 : Int32)), .val (.int p3)] [(.int ((p3 >>> ((0 : Int32) &&& 31)).toInt8.toInt32)), (.int (2 : Int32)), (.ref a1)])) rfl rfl (hb hby d16_43)
  refine Gl.of st4 ?_
  have V4 : Arv Z h4 a1 kk1 .byte (6 : Int32) [(.int y0), (.int y1), (.int (nar .byte ((p3 >>> ((0 : Int32) &&& 31)).toInt8.toInt32))), (.int y3), (.int y4), (.int y5)] (.int 0) := Arv.set zAr3 zq3 zS3 zM3 zH3 zG3 (fits_nar_byte _) W4 2 rfl (Nat.le_of_ble_eq_true rfl)
  have N4 := Fr.snoc X4 (Fr.nil n0) Ga1
  have O4 := O0.wr W4 Ga1
  have K4 := K0.wr W4 (Or.inl (List.mem_of_getElem? (i := 0) rfl))
  show Gl p e below _ (T4.setTop (mkF m 44 #[.val (.ref a1), .val (.int (3 : Int32)), .val (.int p3)] []))
  refine Gl.of (fun _ kq_ => XS.aloadN X4.here hx rfl (hb hby d16_44) rfl rfl kq_) ?_
  show Gl p e below _ (T4.setTop (mkF m 45 #[.val (.ref a1), .val (.int (3 : Int32)), .val (.int p3)] [(.ref a1)]))
  refine Gl.of (fun _ kq_ => XS.iloadN X4.here hx rfl (hb hby d16_45) rfl kq_) ?_
  show Gl p e below _ (T4.setTop (mkF m 46 #[.val (.ref a1), .val (.int (3 : Int32)), .val (.int p3)] [(.int (3 : Int32)), (.ref a1)]))
  refine Gl.of (fun _ kq_ => XS.iloadN X4.here hx rfl (hb hby d16_46) rfl kq_) ?_
  show Gl p e below _ (T4.setTop (mkF m 47 #[.val (.ref a1), .val (.int (3 : Int32)), .val (.int p3)] [(.int p3), (.int (3 : Int32)), (.ref a1)]))
  obtain ⟨T5, X5, e5, st5⟩ := getS2 X4 hx hZ hown (host := "") (Or.inl (w98 hw)) Via.refl e4 (Sl.ext O4.2) (g := (mkF m 47 #[.val (.ref a1), .val (.int (3 : Int32)), .val (.int p3)] [(.int p3), (.int (3 : Int32)), (.ref a1)])) rfl (hb hby d16_47)
  refine Gl.of st5 ?_
  show Gl p e below _ (T5.setTop (mkF m 50 #[.val (.ref a1), .val (.int (3 : Int32)), .val (.int p3)] [(.int (8 : Int32)), (.int p3), (.int (3 : Int32)), (.ref a1)]))
  refine Gl.of (fun _ kq_ => XS.ishr X5.here hx rfl (hb hby d16_50) rfl kq_) ?_
  show Gl p e below _ (T5.setTop (mkF m 51 #[.val (.ref a1), .val (.int (3 : Int32)), .val (.int p3)] [(.int (p3 >>> ((8 : Int32) &&& 31))), (.int (3 : Int32)), (.ref a1)]))
  refine Gl.of (fun _ kq_ => XS.i2b X5.here hx rfl (hb hby d16_51) rfl kq_) ?_
  show Gl p e below _ (T5.setTop (mkF m 52 #[.val (.ref a1), .val (.int (3 : Int32)), .val (.int p3)] [(.int ((p3 >>> ((8 : Int32) &&& 31)).toInt8.toInt32)), (.int (3 : Int32)), (.ref a1)]))
  obtain ⟨zcl6, zAr6, zq6, zS6, zM6, zH6, zG6⟩ := id V4
  obtain ⟨T7, h7, X7, e7, W7, st7⟩ := stB X5 hx hZ e5 zAr6 (j := (3 : Int32)) (inb_of zS6 ⟨by decide, by decide⟩) (g := (mkF m 52 #[.val (.ref a1), .val (.int (3 : Int32)), .val (.int p3)] [(.int ((p3 >>> ((8 : Int32) &&& 31)).toInt8.toInt32)), (.int (3 : Int32)), (.ref a1)])) rfl rfl (hb hby d16_52)
  refine Gl.of st7 ?_
  have V7 : Arv Z h7 a1 kk1 .byte (6 : Int32) [(.int y0), (.int y1), (.int (nar .byte ((p3 >>> ((0 : Int32) &&& 31)).toInt8.toInt32))), (.int (nar .byte ((p3 >>> ((8 : Int32) &&& 31)).toInt8.toInt32))), (.int y4), (.int y5)] (.int 0) := Arv.set zAr6 zq6 zS6 zM6 zH6 zG6 (fits_nar_byte _) W7 3 rfl (Nat.le_of_ble_eq_true rfl)
  have N7 := Fr.snoc X7 N4 Ga1
  have O7 := O4.wr W7 Ga1
  have K7 := K4.wr W7 (Or.inl (List.mem_of_getElem? (i := 0) rfl))
  show Gl p e below _ (T7.setTop (mkF m 53 #[.val (.ref a1), .val (.int (3 : Int32)), .val (.int p3)] []))
  exact Gl.ret0 X7 hx hlk hret (hb hby d16_53) e7 (⟨rfl, N7, K7, V7⟩) (by decide) (by decide)
theorem ef_6 (m : MethodId) (x0 : Addr) (x1 : Int32) (x2 : Int32) : entryFrame m #[(.ref x0), (.int x1), (.int x2)] 3 = mkF m 0 #[.val (.ref x0), .val (.int x1), .val (.int x2)] [] := by first | (simp [entryFrame, mkF, argsToLocals, Value.category, maxLocals]; done) | rfl
set_option maxRecDepth 65536 in
set_option maxHeartbeats 40000000 in
theorem rmP62 (l : Launch) (Z : State) (a0 : Array Value) (hw : ∀ d ∈ tables_1, d.before a0 Z = true) (h0 : Heap) (a1 : Addr) (kk1 : ClassId) (y0 y1 y2 y3 y4 y5 p3 : Int32) (n0 : Nat) (V1 : Arv Z h0 a1 kk1 .byte (6 : Int32) [.int y0, .int y1, .int y2, .int y3, .int y4, .int y5] (.int 0)) (Ga1 : n0 ≤ a1) (Sa : Sta Z Z.heap "java/lang/StringUTF16" "$assertionsDisabled" "Z" (.int 1)) (Sh : Sta Z Z.heap "java/lang/StringUTF16" "HI_BYTE_SHIFT" "I" (.int 0)) (Sl : Sta Z Z.heap "java/lang/StringUTF16" "LO_BYTE_SHIFT" "I" (.int 8)) (O0 : Old Z n0 h0) : Con l Z (⟨"java/lang/StringUTF16", "putChar", "([BII)V"⟩ : MethodName) jdk_52_method_4_code 3 none [] ({ frames := 0, cells := 0, slots := 0, locals := 0 } : Room) 0 0 #[(.ref a1), (.int (2 : Int32)), (.int p3)] h0 (fun v h L => v = none ∧ Fr n0 L ∧ Keep h0 h [a1] ∧ Arv Z h a1 kk1 .byte (6 : Int32) [.int y0, .int y1, .int y2, .int y3, .int (own_hi p3), .int (own_lo p3)] (.int 0)) := by
  refine Con.intro (plainFor_of_name pn_0) ?_
  intro p e s m below meth c s₁ X0 hx hby hml hZ hown hnm hret hlk e0 hs0
  refine Gl.of (fun _ kq_ => castTop (ef_6 m a1 (2 : Int32) p3) kq_) ?_
  have K0 := Keep.refl h0 [a1]
  show Gl p e below _ (s₁.setTop (mkF m 0 #[.val (.ref a1), .val (.int (2 : Int32)), .val (.int p3)] []))
  obtain ⟨T1, X1, e1, st1⟩ := getS2 X0 hx hZ hown (host := "") (Or.inl (w96 hw)) Via.refl e0 (Sa.ext O0.2) (g := (mkF m 0 #[.val (.ref a1), .val (.int (2 : Int32)), .val (.int p3)] [])) rfl (hb hby d16_0)
  refine Gl.of st1 ?_
  show Gl p e below _ (T1.setTop (mkF m 3 #[.val (.ref a1), .val (.int (2 : Int32)), .val (.int p3)] [(.int (1 : Int32))]))
  refine Gl.of (fun _ kq_ => XS.ifYes X1.here hx rfl (pc0 := 3) (pc' := 28) rfl (hb hby d16_3) rfl ((if0 _ _).trans (feq (by decide : ¬ ((1 : Int32) = (0 : Int32)))).2) (by decide) (by decide) kq_) ?_
  show Gl p e below _ (T1.setTop (mkF m 28 #[.val (.ref a1), .val (.int (2 : Int32)), .val (.int p3)] []))
  refine Gl.of (fun _ kq_ => XS.iloadN X1.here hx rfl (hb hby d16_28) rfl kq_) ?_
  show Gl p e below _ (T1.setTop (mkF m 29 #[.val (.ref a1), .val (.int (2 : Int32)), .val (.int p3)] [(.int (2 : Int32))]))
  refine Gl.of (fun _ kq_ => XS.iconst X1.here hx rfl (hb hby d16_29) kq_) ?_
  show Gl p e below _ (T1.setTop (mkF m 30 #[.val (.ref a1), .val (.int (2 : Int32)), .val (.int p3)] [(.int (1 : Int32)), (.int (2 : Int32))]))
  refine Gl.of (fun _ kq_ => XS.ishl X1.here hx rfl (hb hby d16_30) rfl kq_) ?_
  rw [show ((2 : Int32) <<< ((1 : Int32) &&& 31)) = (4 : Int32) from rfl]
  show Gl p e below _ (T1.setTop (mkF m 31 #[.val (.ref a1), .val (.int (2 : Int32)), .val (.int p3)] [(.int (4 : Int32))]))
  refine Gl.of (fun _ kq_ => XS.istoreN X1.here hx rfl (hb hby d16_31) rfl (l' := #[.val (.ref a1), .val (.int (4 : Int32)), .val (.int p3)]) rfl kq_) ?_
  show Gl p e below _ (T1.setTop (mkF m 32 #[.val (.ref a1), .val (.int (4 : Int32)), .val (.int p3)] []))
  refine Gl.of (fun _ kq_ => XS.aloadN X1.here hx rfl (hb hby d16_32) rfl rfl kq_) ?_
  show Gl p e below _ (T1.setTop (mkF m 33 #[.val (.ref a1), .val (.int (4 : Int32)), .val (.int p3)] [(.ref a1)]))
  refine Gl.of (fun _ kq_ => XS.iloadN X1.here hx rfl (hb hby d16_33) rfl kq_) ?_
  show Gl p e below _ (T1.setTop (mkF m 34 #[.val (.ref a1), .val (.int (4 : Int32)), .val (.int p3)] [(.int (4 : Int32)), (.ref a1)]))
  refine Gl.of (fun _ kq_ => XS.iinc X1.here hx rfl (hb hby d16_34) rfl (l' := #[.val (.ref a1), .val (.int (5 : Int32)), .val (.int p3)]) rfl kq_) ?_
  show Gl p e below _ (T1.setTop (mkF m 37 #[.val (.ref a1), .val (.int (5 : Int32)), .val (.int p3)] [(.int (4 : Int32)), (.ref a1)]))
  refine Gl.of (fun _ kq_ => XS.iloadN X1.here hx rfl (hb hby d16_37) rfl kq_) ?_
  show Gl p e below _ (T1.setTop (mkF m 38 #[.val (.ref a1), .val (.int (5 : Int32)), .val (.int p3)] [(.int p3), (.int (4 : Int32)), (.ref a1)]))
  obtain ⟨T2, X2, e2, st2⟩ := getS2 X1 hx hZ hown (host := "") (Or.inl (w97 hw)) Via.refl e1 (Sh.ext O0.2) (g := (mkF m 38 #[.val (.ref a1), .val (.int (5 : Int32)), .val (.int p3)] [(.int p3), (.int (4 : Int32)), (.ref a1)])) rfl (hb hby d16_38)
  refine Gl.of st2 ?_
  show Gl p e below _ (T2.setTop (mkF m 41 #[.val (.ref a1), .val (.int (5 : Int32)), .val (.int p3)] [(.int (0 : Int32)), (.int p3), (.int (4 : Int32)), (.ref a1)]))
  refine Gl.of (fun _ kq_ => XS.ishr X2.here hx rfl (hb hby d16_41) rfl kq_) ?_
  show Gl p e below _ (T2.setTop (mkF m 42 #[.val (.ref a1), .val (.int (5 : Int32)), .val (.int p3)] [(.int (p3 >>> ((0 : Int32) &&& 31))), (.int (4 : Int32)), (.ref a1)]))
  refine Gl.of (fun _ kq_ => XS.i2b X2.here hx rfl (hb hby d16_42) rfl kq_) ?_
  show Gl p e below _ (T2.setTop (mkF m 43 #[.val (.ref a1), .val (.int (5 : Int32)), .val (.int p3)] [(.int ((p3 >>> ((0 : Int32) &&& 31)).toInt8.toInt32)), (.int (4 : Int32)), (.ref a1)]))
  obtain ⟨zcl3, zAr3, zq3, zS3, zM3, zH3, zG3⟩ := id V1
  obtain ⟨T4, h4, X4, e4, W4, st4⟩ := stB X2 hx hZ e2 zAr3 (j := (4 : Int32)) (inb_of zS3 ⟨by decide, by decide⟩) (g := (mkF m 43 #[.val (.ref a1), .val (.int (5 : Int32)), .val (.int p3)] [(.int ((p3 >>> ((0 : Int32) &&& 31)).toInt8.toInt32)), (.int (4 : Int32)), (.ref a1)])) rfl rfl (hb hby d16_43)
  refine Gl.of st4 ?_
  have V4 : Arv Z h4 a1 kk1 .byte (6 : Int32) [(.int y0), (.int y1), (.int y2), (.int y3), (.int (nar .byte ((p3 >>> ((0 : Int32) &&& 31)).toInt8.toInt32))), (.int y5)] (.int 0) := Arv.set zAr3 zq3 zS3 zM3 zH3 zG3 (fits_nar_byte _) W4 4 rfl (Nat.le_of_ble_eq_true rfl)
  have N4 := Fr.snoc X4 (Fr.nil n0) Ga1
  have O4 := O0.wr W4 Ga1
  have K4 := K0.wr W4 (Or.inl (List.mem_of_getElem? (i := 0) rfl))
  show Gl p e below _ (T4.setTop (mkF m 44 #[.val (.ref a1), .val (.int (5 : Int32)), .val (.int p3)] []))
  refine Gl.of (fun _ kq_ => XS.aloadN X4.here hx rfl (hb hby d16_44) rfl rfl kq_) ?_
  show Gl p e below _ (T4.setTop (mkF m 45 #[.val (.ref a1), .val (.int (5 : Int32)), .val (.int p3)] [(.ref a1)]))
  refine Gl.of (fun _ kq_ => XS.iloadN X4.here hx rfl (hb hby d16_45) rfl kq_) ?_
  show Gl p e below _ (T4.setTop (mkF m 46 #[.val (.ref a1), .val (.int (5 : Int32)), .val (.int p3)] [(.int (5 : Int32)), (.ref a1)]))
  refine Gl.of (fun _ kq_ => XS.iloadN X4.here hx rfl (hb hby d16_46) rfl kq_) ?_
  show Gl p e below _ (T4.setTop (mkF m 47 #[.val (.ref a1), .val (.int (5 : Int32)), .val (.int p3)] [(.int p3), (.int (5 : Int32)), (.ref a1)]))
  obtain ⟨T5, X5, e5, st5⟩ := getS2 X4 hx hZ hown (host := "") (Or.inl (w98 hw)) Via.refl e4 (Sl.ext O4.2) (g := (mkF m 47 #[.val (.ref a1), .val (.int (5 : Int32)), .val (.int p3)] [(.int p3), (.int (5 : Int32)), (.ref a1)])) rfl (hb hby d16_47)
  refine Gl.of st5 ?_
  show Gl p e below _ (T5.setTop (mkF m 50 #[.val (.ref a1), .val (.int (5 : Int32)), .val (.int p3)] [(.int (8 : Int32)), (.int p3), (.int (5 : Int32)), (.ref a1)]))
  refine Gl.of (fun _ kq_ => XS.ishr X5.here hx rfl (hb hby d16_50) rfl kq_) ?_
  show Gl p e below _ (T5.setTop (mkF m 51 #[.val (.ref a1), .val (.int (5 : Int32)), .val (.int p3)] [(.int (p3 >>> ((8 : Int32) &&& 31))), (.int (5 : Int32)), (.ref a1)]))
  refine Gl.of (fun _ kq_ => XS.i2b X5.here hx rfl (hb hby d16_51) rfl kq_) ?_
  show Gl p e below _ (T5.setTop (mkF m 52 #[.val (.ref a1), .val (.int (5 : Int32)), .val (.int p3)] [(.int ((p3 >>> ((8 : Int32) &&& 31)).toInt8.toInt32)), (.int (5 : Int32)), (.ref a1)]))
  obtain ⟨zcl6, zAr6, zq6, zS6, zM6, zH6, zG6⟩ := id V4
  obtain ⟨T7, h7, X7, e7, W7, st7⟩ := stB X5 hx hZ e5 zAr6 (j := (5 : Int32)) (inb_of zS6 ⟨by decide, by decide⟩) (g := (mkF m 52 #[.val (.ref a1), .val (.int (5 : Int32)), .val (.int p3)] [(.int ((p3 >>> ((8 : Int32) &&& 31)).toInt8.toInt32)), (.int (5 : Int32)), (.ref a1)])) rfl rfl (hb hby d16_52)
  refine Gl.of st7 ?_
  have V7 : Arv Z h7 a1 kk1 .byte (6 : Int32) [(.int y0), (.int y1), (.int y2), (.int y3), (.int (nar .byte ((p3 >>> ((0 : Int32) &&& 31)).toInt8.toInt32))), (.int (nar .byte ((p3 >>> ((8 : Int32) &&& 31)).toInt8.toInt32)))] (.int 0) := Arv.set zAr6 zq6 zS6 zM6 zH6 zG6 (fits_nar_byte _) W7 5 rfl (Nat.le_of_ble_eq_true rfl)
  have N7 := Fr.snoc X7 N4 Ga1
  have O7 := O4.wr W7 Ga1
  have K7 := K4.wr W7 (Or.inl (List.mem_of_getElem? (i := 0) rfl))
  show Gl p e below _ (T7.setTop (mkF m 53 #[.val (.ref a1), .val (.int (5 : Int32)), .val (.int p3)] []))
  exact Gl.ret0 X7 hx hlk hret (hb hby d16_53) e7 (⟨rfl, N7, K7, V7⟩) (by decide) (by decide)
theorem ef_7 (m : MethodId) (x0 : Int32) : entryFrame m #[(.int x0)] 1 = mkF m 0 #[.val (.int x0)] [] := by first | (simp [entryFrame, mkF, argsToLocals, Value.category, maxLocals]; done) | rfl
theorem d15_0 : decode jdk_52_method_3_code 0 = .ok (.iload_n 0, 1) := by decide +kernel
theorem d15_1 : decode jdk_52_method_3_code 1 = .ok (.ifCond .ge 11, 3) := by decide +kernel
theorem d15_12 : decode jdk_52_method_3_code 12 = .ok (.iload_n 0, 1) := by decide +kernel
theorem d15_13 : decode jdk_52_method_3_code 13 = .ok (.ldc 20, 2) := by decide +kernel
theorem w92 {Z : State} {a0 : Array Value} (hw : ∀ d ∈ tables_1, d.before a0 Z = true) : (Jvm.Cond.constant "java/lang/StringUTF16" (20 : Nat) (1073741823 : Int32)).before a0 Z = true := hw _ (List.mem_of_getElem? (i := 92) rfl)
theorem d15_15 : decode jdk_52_method_3_code 15 = .ok (.if_icmp .lt 40, 3) := by decide +kernel
theorem d15_55 : decode jdk_52_method_3_code 55 = .ok (.iload_n 0, 1) := by decide +kernel
theorem d15_56 : decode jdk_52_method_3_code 56 = .ok (.iconst 1, 1) := by decide +kernel
theorem d15_57 : decode jdk_52_method_3_code 57 = .ok (.ishl, 1) := by decide +kernel
theorem d15_58 : decode jdk_52_method_3_code 58 = .ok (.ireturn, 1) := by decide +kernel
set_option maxRecDepth 65536 in
set_option maxHeartbeats 40000000 in
theorem rmL2 (l : Launch) (Z : State) (a0 : Array Value) (hw : ∀ d ∈ tables_1, d.before a0 Z = true) (h0 : Heap) : Con l Z (⟨"java/lang/StringUTF16", "newBytesLength", "(I)I"⟩ : MethodName) jdk_52_method_3_code 1 (some .int) [] ({ frames := 0, cells := 0, slots := 0, locals := 0 } : Room) 0 0 #[(.int (2 : Int32))] h0 (Pur (fun v => v = some (.int (4 : Int32))) h0) := by
  refine Con.intro (plainFor_of_name pn_0) ?_
  intro p e s m below meth c s₁ X0 hx hby hml hZ hown hnm hret hlk e0 hs0
  refine Gl.of (fun _ kq_ => castTop (ef_7 m (2 : Int32)) kq_) ?_
  show Gl p e below _ (s₁.setTop (mkF m 0 #[.val (.int (2 : Int32))] []))
  refine Gl.of (fun _ kq_ => XS.iloadN X0.here hx rfl (hb hby d15_0) rfl kq_) ?_
  show Gl p e below _ (s₁.setTop (mkF m 1 #[.val (.int (2 : Int32))] [(.int (2 : Int32))]))
  refine Gl.of (fun _ kq_ => XS.ifYes X0.here hx rfl (pc0 := 1) (pc' := 12) rfl (hb hby d15_1) rfl ((if0 _ _).trans (flt (by decide : ¬ ((2 : Int32) < (0 : Int32)))).2.1) (by decide) (by decide) kq_) ?_
  show Gl p e below _ (s₁.setTop (mkF m 12 #[.val (.int (2 : Int32))] []))
  refine Gl.of (fun _ kq_ => XS.iloadN X0.here hx rfl (hb hby d15_12) rfl kq_) ?_
  show Gl p e below _ (s₁.setTop (mkF m 13 #[.val (.int (2 : Int32))] [(.int (2 : Int32))]))
  refine Gl.of (fun _ kq_ => X0.ldcInt hx hown (mvT hZ (w92 hw)) (g := (mkF m 13 #[.val (.int (2 : Int32))] [(.int (2 : Int32))])) rfl (hb hby d15_13) _ kq_) ?_
  show Gl p e below _ (s₁.setTop (mkF m 15 #[.val (.int (2 : Int32))] [(.int (1073741823 : Int32)), (.int (2 : Int32))]))
  refine Gl.of (fun _ kq_ => XS.icmpYes X0.here hx rfl (pc0 := 15) (pc' := 55) rfl (hb hby d15_15) rfl (tlt (by decide : (2 : Int32) < (1073741823 : Int32))).1 (by decide) (by decide) kq_) ?_
  show Gl p e below _ (s₁.setTop (mkF m 55 #[.val (.int (2 : Int32))] []))
  refine Gl.of (fun _ kq_ => XS.iloadN X0.here hx rfl (hb hby d15_55) rfl kq_) ?_
  show Gl p e below _ (s₁.setTop (mkF m 56 #[.val (.int (2 : Int32))] [(.int (2 : Int32))]))
  refine Gl.of (fun _ kq_ => XS.iconst X0.here hx rfl (hb hby d15_56) kq_) ?_
  show Gl p e below _ (s₁.setTop (mkF m 57 #[.val (.int (2 : Int32))] [(.int (1 : Int32)), (.int (2 : Int32))]))
  refine Gl.of (fun _ kq_ => XS.ishl X0.here hx rfl (hb hby d15_57) rfl kq_) ?_
  rw [show ((2 : Int32) <<< ((1 : Int32) &&& 31)) = (4 : Int32) from rfl]
  show Gl p e below _ (s₁.setTop (mkF m 58 #[.val (.int (2 : Int32))] [(.int (4 : Int32))]))
  exact Gl.retI X0 hx hlk hret (hb hby d15_58) e0 (⟨rfl, rfl, rfl⟩) (by decide) (by decide)
theorem ef_8 (m : MethodId) (x0 : Int32) : entryFrame m #[(.int x0)] 1 = mkF m 0 #[.val (.int x0)] [] := by first | (simp [entryFrame, mkF, argsToLocals, Value.category, maxLocals]; done) | rfl
theorem d14_0 : decode jdk_52_method_2_code 0 = .ok (.iload_n 0, 1) := by decide +kernel
theorem d14_1 : decode jdk_52_method_2_code 1 = .ok (.invokestatic 11, 3) := by decide +kernel
theorem pd_0 : parseMethodDescriptor "(I)I" = some ⟨[.int], some .int⟩ := by decide +kernel
theorem w89 {Z : State} {a0 : Array Value} (hw : ∀ d ∈ tables_1, d.before a0 Z = true) : (Jvm.Cond.methodLink "java/lang/StringUTF16" (11 : Nat) ({ cls := "java/lang/StringUTF16", name := "newBytesLength", desc := "(I)I" } : Jvm.MethodName)).before a0 Z = true := hw _ (List.mem_of_getElem? (i := 89) rfl)
theorem w90 {Z : State} {a0 : Array Value} (hw : ∀ d ∈ tables_1, d.before a0 Z = true) : (Jvm.Cond.static ({ cls := "java/lang/StringUTF16", name := "newBytesLength", desc := "(I)I" } : Jvm.MethodName)).before a0 Z = true := hw _ (List.mem_of_getElem? (i := 90) rfl)
theorem w78 {Z : State} {a0 : Array Value} (hw : ∀ d ∈ tables_1, d.before a0 Z = true) : (Jvm.Cond.initialized "java/lang/StringUTF16").before a0 Z = true := hw _ (List.mem_of_getElem? (i := 78) rfl)
theorem w91 {Z : State} {a0 : Array Value} (hw : ∀ d ∈ tables_1, d.before a0 Z = true) : (Jvm.Cond.code ({ cls := "java/lang/StringUTF16", name := "newBytesLength", desc := "(I)I" } : Jvm.MethodName) jdk_52_method_3_code (1 : Nat) (Option.some Jvm.ClassFile.FieldType.int)).before a0 Z = true := hw _ (List.mem_of_getElem? (i := 91) rfl)
theorem d14_4 : decode jdk_52_method_2_code 4 = .ok (.newarray .byte, 2) := by decide +kernel
theorem w20 {Z : State} {a0 : Array Value} (hw : ∀ d ∈ tables_1, d.before a0 Z = true) : (Jvm.Cond.arrayClass Jvm.ClassFile.FieldType.byte).before a0 Z = true := hw _ (List.mem_of_getElem? (i := 20) rfl)
theorem d14_6 : decode jdk_52_method_2_code 6 = .ok (.areturn, 1) := by decide +kernel
set_option maxRecDepth 65536 in
set_option maxHeartbeats 40000000 in
theorem rmF2 (l : Launch) (Z : State) (a0 : Array Value) (hw : ∀ d ∈ tables_1, d.before a0 Z = true) (h0 : Heap) (n0 : Nat) (O0 : Old Z n0 h0) : Con l Z (⟨"java/lang/StringUTF16", "newBytesFor", "(I)[B"⟩ : MethodName) jdk_52_method_2_code 1 (some (.array .byte)) [] ({ frames := 1, cells := 1, slots := 4, locals := 13 } : Room) 1 4 #[(.int (2 : Int32))] h0 (fun v h L => ∃ r k, v = some (.ref r) ∧ Arv Z h r k .byte (4 : Int32) [.int (0 : Int32), .int (0 : Int32), .int (0 : Int32), .int (0 : Int32)] (.int 0) ∧ Keep h0 h [] ∧ Fr n0 L ∧ n0 ≤ r ∧ h0.size ≤ r) := by
  refine Con.intro (plainFor_of_name pn_0) ?_
  intro p e s m below meth c s₁ X0 hx hby hml hZ hown hnm hret hlk e0 hs0
  refine Gl.of (fun _ kq_ => castTop (ef_8 m (2 : Int32)) kq_) ?_
  have K0 := Keep.refl h0 []
  show Gl p e below _ (s₁.setTop (mkF m 0 #[.val (.int (2 : Int32))] []))
  refine Gl.of (fun _ kq_ => XS.iloadN X0.here hx rfl (hb hby d14_0) rfl kq_) ?_
  show Gl p e below _ (s₁.setTop (mkF m 1 #[.val (.int (2 : Int32))] [(.int (2 : Int32))]))
  refine Gl.callS0 X0 hx hZ (y := (⟨"java/lang/StringUTF16", "newBytesLength", "(I)I"⟩ : MethodName)) hown (w89 hw) (w90 hw) (w78 hw) (w91 hw) (desc_ne (by decide)) (argsL := [(.int (2 : Int32))]) (rest := []) (rmL2 l Z a0 hw _) 0 (by decide) (by decide) e0 (pc := 1) (Ls := #[.val (.int (2 : Int32))]) (st := [(.int (2 : Int32))]) (by rw [hml]; rfl) pd_0 rfl rfl (Nat.le_of_eq rfl) (hb hby d14_1) (by decide) (by decide) ?_
  intro v1 T1 X1 e1 hv1
  subst hv1
  show Gl p e below _ (T1.setTop (mkF m 4 #[.val (.int (2 : Int32))] [(.int (4 : Int32))]))
  obtain ⟨T2, h2, k2, X2, e2, E2, A2, st2⟩ := newP (aty := .byte) X1 hx hZ (w20 hw) e1 (g := (mkF m 4 #[.val (.int (2 : Int32))] [(.int (4 : Int32))])) rfl (hb hby d14_4) rfl (by decide) (cap := 4) (by decide) (by decide) (by decide) (by decide)
  obtain ⟨b2, g2⟩ : ∃ z, z = h0.size := ⟨_, rfl⟩
  rw [← g2] at A2 st2
  refine Gl.of st2 ?_
  have Gb2 : n0 ≤ b2 := Nat.le_trans (O0.1 ▸ O0.2.1) (Nat.le_of_eq g2.symm)
  have Jb2 : h0.size ≤ b2 := Nat.le_trans K0.1 (Nat.le_of_eq g2.symm)
  have O2 := O0.ext E2
  have K2 := K0.ext E2
  have V2 : Arv Z h2 b2 k2 .byte (4 : Int32) [(.int (0 : Int32)), (.int (0 : Int32)), (.int (0 : Int32)), (.int (0 : Int32))] (.int (0 : Int32)) := (Arv.new A2 (by decide)).pad (pad_rep [] (.int (0 : Int32)) 4)
  show Gl p e below _ (T2.setTop (mkF m 6 #[.val (.int (2 : Int32))] [(.ref b2)]))
  exact Gl.retR X2 hx hlk hret rfl rfl (hb hby d14_6) e2 (⟨_, _, rfl, V2, K2, (Fr.nil n0), Gb2, Jb2⟩) (by decide) (by decide)
theorem ef_9 (m : MethodId) (x0 : Addr) (x1 : Int32) (x2 : Int32) : entryFrame m #[(.ref x0), (.int x1), (.int x2)] 5 = mkF m 0 #[.val (.ref x0), .val (.int x1), .val (.int x2), .unset, .unset] [] := by first | (simp [entryFrame, mkF, argsToLocals, Value.category, maxLocals]; done) | rfl
theorem d13_0 : decode jdk_52_method_14_code 0 = .ok (.iload_n 2, 1) := by decide +kernel
theorem d13_1 : decode jdk_52_method_14_code 1 = .ok (.invokestatic 107, 3) := by decide +kernel
theorem pd_1 : parseMethodDescriptor "(I)[B" = some ⟨[.int], some (.array .byte)⟩ := by decide +kernel
theorem w86 {Z : State} {a0 : Array Value} (hw : ∀ d ∈ tables_1, d.before a0 Z = true) : (Jvm.Cond.methodLink "java/lang/StringUTF16" (107 : Nat) ({ cls := "java/lang/StringUTF16", name := "newBytesFor", desc := "(I)[B" } : Jvm.MethodName)).before a0 Z = true := hw _ (List.mem_of_getElem? (i := 86) rfl)
theorem w87 {Z : State} {a0 : Array Value} (hw : ∀ d ∈ tables_1, d.before a0 Z = true) : (Jvm.Cond.static ({ cls := "java/lang/StringUTF16", name := "newBytesFor", desc := "(I)[B" } : Jvm.MethodName)).before a0 Z = true := hw _ (List.mem_of_getElem? (i := 87) rfl)
theorem w88 {Z : State} {a0 : Array Value} (hw : ∀ d ∈ tables_1, d.before a0 Z = true) : (Jvm.Cond.code ({ cls := "java/lang/StringUTF16", name := "newBytesFor", desc := "(I)[B" } : Jvm.MethodName) jdk_52_method_2_code (1 : Nat) (Option.some (Jvm.ClassFile.FieldType.array Jvm.ClassFile.FieldType.byte))).before a0 Z = true := hw _ (List.mem_of_getElem? (i := 88) rfl)
theorem d13_4 : decode jdk_52_method_14_code 4 = .ok (.astore_n 3, 1) := by decide +kernel
theorem d13_5 : decode jdk_52_method_14_code 5 = .ok (.iconst 0, 1) := by decide +kernel
theorem d13_6 : decode jdk_52_method_14_code 6 = .ok (.istore 4, 2) := by decide +kernel
theorem d13_8 : decode jdk_52_method_14_code 8 = .ok (.iload 4, 2) := by decide +kernel
theorem d13_10 : decode jdk_52_method_14_code 10 = .ok (.iload_n 2, 1) := by decide +kernel
theorem d13_11 : decode jdk_52_method_14_code 11 = .ok (.if_icmp .ge 21, 3) := by decide +kernel
theorem d13_14 : decode jdk_52_method_14_code 14 = .ok (.aload_n 3, 1) := by decide +kernel
theorem d13_15 : decode jdk_52_method_14_code 15 = .ok (.iload 4, 2) := by decide +kernel
theorem d13_17 : decode jdk_52_method_14_code 17 = .ok (.aload_n 0, 1) := by decide +kernel
theorem d13_18 : decode jdk_52_method_14_code 18 = .ok (.iload_n 1, 1) := by decide +kernel
theorem d13_19 : decode jdk_52_method_14_code 19 = .ok (.caload, 1) := by decide +kernel
theorem d13_20 : decode jdk_52_method_14_code 20 = .ok (.invokestatic 111, 3) := by decide +kernel
theorem pd_2 : parseMethodDescriptor "([BII)V" = some ⟨[(.array .byte), .int, .int], none⟩ := by decide +kernel
theorem w93 {Z : State} {a0 : Array Value} (hw : ∀ d ∈ tables_1, d.before a0 Z = true) : (Jvm.Cond.methodLink "java/lang/StringUTF16" (111 : Nat) ({ cls := "java/lang/StringUTF16", name := "putChar", desc := "([BII)V" } : Jvm.MethodName)).before a0 Z = true := hw _ (List.mem_of_getElem? (i := 93) rfl)
theorem w94 {Z : State} {a0 : Array Value} (hw : ∀ d ∈ tables_1, d.before a0 Z = true) : (Jvm.Cond.static ({ cls := "java/lang/StringUTF16", name := "putChar", desc := "([BII)V" } : Jvm.MethodName)).before a0 Z = true := hw _ (List.mem_of_getElem? (i := 94) rfl)
theorem w95 {Z : State} {a0 : Array Value} (hw : ∀ d ∈ tables_1, d.before a0 Z = true) : (Jvm.Cond.code ({ cls := "java/lang/StringUTF16", name := "putChar", desc := "([BII)V" } : Jvm.MethodName) jdk_52_method_4_code (3 : Nat) (Option.none : Option Jvm.ClassFile.FieldType)).before a0 Z = true := hw _ (List.mem_of_getElem? (i := 95) rfl)
theorem d13_23 : decode jdk_52_method_14_code 23 = .ok (.iinc 1 1, 3) := by decide +kernel
theorem d13_26 : decode jdk_52_method_14_code 26 = .ok (.iinc 4 1, 3) := by decide +kernel
theorem d13_29 : decode jdk_52_method_14_code 29 = .ok (.goto (-21), 3) := by decide +kernel
theorem d13_32 : decode jdk_52_method_14_code 32 = .ok (.aload_n 3, 1) := by decide +kernel
theorem d13_33 : decode jdk_52_method_14_code 33 = .ok (.areturn, 1) := by decide +kernel
set_option maxRecDepth 65536 in
set_option maxHeartbeats 40000000 in
theorem rmB2 (l : Launch) (Z : State) (a0 : Array Value) (hw : ∀ d ∈ tables_1, d.before a0 Z = true) (h0 : Heap) (a1 : Addr) (kk1 : ClassId) (c0 c1 : Int32) (n0 : Nat) (V1 : Arv Z h0 a1 kk1 .char (2 : Int32) [.int c0, .int c1] (.int 0)) (Sa : Sta Z Z.heap "java/lang/StringUTF16" "$assertionsDisabled" "Z" (.int 1)) (Sh : Sta Z Z.heap "java/lang/StringUTF16" "HI_BYTE_SHIFT" "I" (.int 0)) (Sl : Sta Z Z.heap "java/lang/StringUTF16" "LO_BYTE_SHIFT" "I" (.int 8)) (O0 : Old Z n0 h0) : Con l Z (⟨"java/lang/StringUTF16", "toBytes", "([CII)[B"⟩ : MethodName) jdk_52_method_14_code 5 (some (.array .byte)) [] ({ frames := 2, cells := 1, slots := 4, locals := 26 } : Room) 1 4 #[(.ref a1), (.int (0 : Int32)), (.int (2 : Int32))] h0 (fun v h L => ∃ r k, v = some (.ref r) ∧ Arv Z h r k .byte (4 : Int32) [.int (own_hi c0), .int (own_lo c0), .int (own_hi c1), .int (own_lo c1)] (.int 0) ∧ Keep h0 h [] ∧ Fr n0 L ∧ n0 ≤ r ∧ h0.size ≤ r) := by
  refine Con.intro (plainFor_of_name pn_0) ?_
  intro p e s m below meth c s₁ X0 hx hby hml hZ hown hnm hret hlk e0 hs0
  refine Gl.of (fun _ kq_ => castTop (ef_9 m a1 (0 : Int32) (2 : Int32)) kq_) ?_
  have K0 := Keep.refl h0 []
  show Gl p e below _ (s₁.setTop (mkF m 0 #[.val (.ref a1), .val (.int (0 : Int32)), .val (.int (2 : Int32)), .unset, .unset] []))
  refine Gl.of (fun _ kq_ => XS.iloadN X0.here hx rfl (hb hby d13_0) rfl kq_) ?_
  show Gl p e below _ (s₁.setTop (mkF m 1 #[.val (.ref a1), .val (.int (0 : Int32)), .val (.int (2 : Int32)), .unset, .unset] [(.int (2 : Int32))]))
  refine Gl.callS X0 hx hZ (y := (⟨"java/lang/StringUTF16", "newBytesFor", "(I)[B"⟩ : MethodName)) hown (w86 hw) (w87 hw) (w78 hw) (w88 hw) (desc_ne (by decide)) (rm := { frames := 1, cells := 1, slots := 4, locals := 13 }) (argsL := [(.int (2 : Int32))]) (rest := []) (rmF2 l Z a0 hw _ n0 O0) 0 (by decide) (by decide) (by decide) (by decide) e0 (pc := 1) (Ls := #[.val (.ref a1), .val (.int (0 : Int32)), .val (.int (2 : Int32)), .unset, .unset]) (st := [(.int (2 : Int32))]) (by rw [hml]; rfl) pd_1 rfl rfl (Nat.le_of_eq rfl) (hb hby d13_1) ?_
  intro v1 T1 L1 X1 hQ1
  obtain ⟨r1, k1, rfl, Vq1, Kq1, Nq1, Gr1, H1⟩ := hQ1
  have N1 := Fr.app (Fr.nil n0) Nq1
  have ne_a1_r1 : a1 ≠ r1 := Nat.ne_of_lt (Nat.lt_of_lt_of_le V1.lt H1)
  have Jr1 : h0.size ≤ r1 := Nat.le_trans K0.1 H1
  have vc2 := V1.keep Kq1 (by simp)
  have O1 := O0.keep Kq1 all0
  have K1 := K0.trans Kq1 (by intro x hx'; exact nomatch hx')
  show Gl p e below _ (T1.setTop (mkF m 4 #[.val (.ref a1), .val (.int (0 : Int32)), .val (.int (2 : Int32)), .unset, .unset] [(.ref r1)]))
  refine Gl.of (fun _ kq_ => XS.astoreN X1.here hx rfl (hb hby d13_4) rfl rfl (l' := #[.val (.ref a1), .val (.int (0 : Int32)), .val (.int (2 : Int32)), .val (.ref r1), .unset]) rfl kq_) ?_
  show Gl p e below _ (T1.setTop (mkF m 5 #[.val (.ref a1), .val (.int (0 : Int32)), .val (.int (2 : Int32)), .val (.ref r1), .unset] []))
  refine Gl.of (fun _ kq_ => XS.iconst X1.here hx rfl (hb hby d13_5) kq_) ?_
  show Gl p e below _ (T1.setTop (mkF m 6 #[.val (.ref a1), .val (.int (0 : Int32)), .val (.int (2 : Int32)), .val (.ref r1), .unset] [(.int (0 : Int32))]))
  refine Gl.of (fun _ kq_ => XS.istore X1.here hx rfl (hb hby d13_6) rfl (l' := #[.val (.ref a1), .val (.int (0 : Int32)), .val (.int (2 : Int32)), .val (.ref r1), .val (.int (0 : Int32))]) rfl kq_) ?_
  show Gl p e below _ (T1.setTop (mkF m 8 #[.val (.ref a1), .val (.int (0 : Int32)), .val (.int (2 : Int32)), .val (.ref r1), .val (.int (0 : Int32))] []))
  refine Gl.of (fun _ kq_ => XS.iload X1.here hx rfl (hb hby d13_8) rfl kq_) ?_
  show Gl p e below _ (T1.setTop (mkF m 10 #[.val (.ref a1), .val (.int (0 : Int32)), .val (.int (2 : Int32)), .val (.ref r1), .val (.int (0 : Int32))] [(.int (0 : Int32))]))
  refine Gl.of (fun _ kq_ => XS.iloadN X1.here hx rfl (hb hby d13_10) rfl kq_) ?_
  show Gl p e below _ (T1.setTop (mkF m 11 #[.val (.ref a1), .val (.int (0 : Int32)), .val (.int (2 : Int32)), .val (.ref r1), .val (.int (0 : Int32))] [(.int (2 : Int32)), (.int (0 : Int32))]))
  refine Gl.of (fun _ kq_ => XS.icmpNo X1.here hx rfl (hb hby d13_11) rfl (tlt (by decide : (0 : Int32) < (2 : Int32))).2.1 kq_) ?_
  show Gl p e below _ (T1.setTop (mkF m 14 #[.val (.ref a1), .val (.int (0 : Int32)), .val (.int (2 : Int32)), .val (.ref r1), .val (.int (0 : Int32))] []))
  refine Gl.of (fun _ kq_ => XS.aloadN X1.here hx rfl (hb hby d13_14) rfl rfl kq_) ?_
  show Gl p e below _ (T1.setTop (mkF m 15 #[.val (.ref a1), .val (.int (0 : Int32)), .val (.int (2 : Int32)), .val (.ref r1), .val (.int (0 : Int32))] [(.ref r1)]))
  refine Gl.of (fun _ kq_ => XS.iload X1.here hx rfl (hb hby d13_15) rfl kq_) ?_
  show Gl p e below _ (T1.setTop (mkF m 17 #[.val (.ref a1), .val (.int (0 : Int32)), .val (.int (2 : Int32)), .val (.ref r1), .val (.int (0 : Int32))] [(.int (0 : Int32)), (.ref r1)]))
  refine Gl.of (fun _ kq_ => XS.aloadN X1.here hx rfl (hb hby d13_17) rfl rfl kq_) ?_
  show Gl p e below _ (T1.setTop (mkF m 18 #[.val (.ref a1), .val (.int (0 : Int32)), .val (.int (2 : Int32)), .val (.ref r1), .val (.int (0 : Int32))] [(.ref a1), (.int (0 : Int32)), (.ref r1)]))
  refine Gl.of (fun _ kq_ => XS.iloadN X1.here hx rfl (hb hby d13_18) rfl kq_) ?_
  show Gl p e below _ (T1.setTop (mkF m 19 #[.val (.ref a1), .val (.int (0 : Int32)), .val (.int (2 : Int32)), .val (.ref r1), .val (.int (0 : Int32))] [(.int (0 : Int32)), (.ref a1), (.int (0 : Int32)), (.ref r1)]))
  obtain ⟨zcl3, zAr3, zq3, zS3, zM3, zH3, zG3⟩ := id vc2
  refine Gl.of (fun _ kq_ => X1.caload hx (j := (0 : Int32)) (v := (.int c0)) (zAr3).1 (State.isArrayOf_alike hZ.alike (zAr3).2.1) (zAr3).2.2 (inb_of zS3 ⟨by decide, by decide⟩) (zH3 0 (by rw [zS3]; decide)) (g := (mkF m 19 #[.val (.ref a1), .val (.int (0 : Int32)), .val (.int (2 : Int32)), .val (.ref r1), .val (.int (0 : Int32))] [(.int (0 : Int32)), (.ref a1), (.int (0 : Int32)), (.ref r1)])) rfl rfl (hb hby d13_19) _ kq_) ?_
  show Gl p e below _ (T1.setTop (mkF m 20 #[.val (.ref a1), .val (.int (0 : Int32)), .val (.int (2 : Int32)), .val (.ref r1), .val (.int (0 : Int32))] [(.int c0), (.int (0 : Int32)), (.ref r1)]))
  refine Gl.callS X1 hx hZ (y := (⟨"java/lang/StringUTF16", "putChar", "([BII)V"⟩ : MethodName)) hown (w93 hw) (w94 hw) (w78 hw) (w95 hw) (desc_ne (by decide)) (rm := { frames := 0, cells := 0, slots := 0, locals := 0 }) (argsL := [(.ref r1), (.int (0 : Int32)), (.int c0)]) (rest := []) (rmP40 l Z a0 hw _ r1 k1 (0 : Int32) (0 : Int32) (0 : Int32) (0 : Int32) c0 n0 Vq1 Gr1 Sa Sh Sl O1) 0 (by decide) (by decide) (by decide) (by decide) rfl (pc := 20) (Ls := #[.val (.ref a1), .val (.int (0 : Int32)), .val (.int (2 : Int32)), .val (.ref r1), .val (.int (0 : Int32))]) (st := [(.int c0), (.int (0 : Int32)), (.ref r1)]) (by rw [hml]; rfl) pd_2 rfl rfl (Nat.le_of_eq rfl) (hb hby d13_20) ?_
  intro v4 T4 L4 X4 hQ4
  obtain ⟨rfl, Nq4, Kq4, Vq4⟩ := hQ4
  have N4 := Fr.app N1 Nq4
  have vc5 := vc2.keep Kq4 (fun q => ne_a1_r1 (List.mem_singleton.mp q))
  have O4 := O1.keep Kq4 (allS Gr1 all0)
  have K4 := K1.trans Kq4 (by intro x hx'; cases List.mem_singleton.mp hx'; exact Or.inr Jr1)
  show Gl p e below _ (T4.setTop (mkF m 23 #[.val (.ref a1), .val (.int (0 : Int32)), .val (.int (2 : Int32)), .val (.ref r1), .val (.int (0 : Int32))] []))
  refine Gl.of (fun _ kq_ => XS.iinc X4.here hx rfl (hb hby d13_23) rfl (l' := #[.val (.ref a1), .val (.int (1 : Int32)), .val (.int (2 : Int32)), .val (.ref r1), .val (.int (0 : Int32))]) rfl kq_) ?_
  show Gl p e below _ (T4.setTop (mkF m 26 #[.val (.ref a1), .val (.int (1 : Int32)), .val (.int (2 : Int32)), .val (.ref r1), .val (.int (0 : Int32))] []))
  refine Gl.of (fun _ kq_ => XS.iinc X4.here hx rfl (hb hby d13_26) rfl (l' := #[.val (.ref a1), .val (.int (1 : Int32)), .val (.int (2 : Int32)), .val (.ref r1), .val (.int (1 : Int32))]) rfl kq_) ?_
  show Gl p e below _ (T4.setTop (mkF m 29 #[.val (.ref a1), .val (.int (1 : Int32)), .val (.int (2 : Int32)), .val (.ref r1), .val (.int (1 : Int32))] []))
  refine Gl.of (fun _ kq_ => XS.goto X4.here hx rfl (pc0 := 29) (pc' := 8) rfl (hb hby d13_29) (by decide) (by decide) kq_) ?_
  show Gl p e below _ (T4.setTop (mkF m 8 #[.val (.ref a1), .val (.int (1 : Int32)), .val (.int (2 : Int32)), .val (.ref r1), .val (.int (1 : Int32))] []))
  refine Gl.of (fun _ kq_ => XS.iload X4.here hx rfl (hb hby d13_8) rfl kq_) ?_
  show Gl p e below _ (T4.setTop (mkF m 10 #[.val (.ref a1), .val (.int (1 : Int32)), .val (.int (2 : Int32)), .val (.ref r1), .val (.int (1 : Int32))] [(.int (1 : Int32))]))
  refine Gl.of (fun _ kq_ => XS.iloadN X4.here hx rfl (hb hby d13_10) rfl kq_) ?_
  show Gl p e below _ (T4.setTop (mkF m 11 #[.val (.ref a1), .val (.int (1 : Int32)), .val (.int (2 : Int32)), .val (.ref r1), .val (.int (1 : Int32))] [(.int (2 : Int32)), (.int (1 : Int32))]))
  refine Gl.of (fun _ kq_ => XS.icmpNo X4.here hx rfl (hb hby d13_11) rfl (tlt (by decide : (1 : Int32) < (2 : Int32))).2.1 kq_) ?_
  show Gl p e below _ (T4.setTop (mkF m 14 #[.val (.ref a1), .val (.int (1 : Int32)), .val (.int (2 : Int32)), .val (.ref r1), .val (.int (1 : Int32))] []))
  refine Gl.of (fun _ kq_ => XS.aloadN X4.here hx rfl (hb hby d13_14) rfl rfl kq_) ?_
  show Gl p e below _ (T4.setTop (mkF m 15 #[.val (.ref a1), .val (.int (1 : Int32)), .val (.int (2 : Int32)), .val (.ref r1), .val (.int (1 : Int32))] [(.ref r1)]))
  refine Gl.of (fun _ kq_ => XS.iload X4.here hx rfl (hb hby d13_15) rfl kq_) ?_
  show Gl p e below _ (T4.setTop (mkF m 17 #[.val (.ref a1), .val (.int (1 : Int32)), .val (.int (2 : Int32)), .val (.ref r1), .val (.int (1 : Int32))] [(.int (1 : Int32)), (.ref r1)]))
  refine Gl.of (fun _ kq_ => XS.aloadN X4.here hx rfl (hb hby d13_17) rfl rfl kq_) ?_
  show Gl p e below _ (T4.setTop (mkF m 18 #[.val (.ref a1), .val (.int (1 : Int32)), .val (.int (2 : Int32)), .val (.ref r1), .val (.int (1 : Int32))] [(.ref a1), (.int (1 : Int32)), (.ref r1)]))
  refine Gl.of (fun _ kq_ => XS.iloadN X4.here hx rfl (hb hby d13_18) rfl kq_) ?_
  show Gl p e below _ (T4.setTop (mkF m 19 #[.val (.ref a1), .val (.int (1 : Int32)), .val (.int (2 : Int32)), .val (.ref r1), .val (.int (1 : Int32))] [(.int (1 : Int32)), (.ref a1), (.int (1 : Int32)), (.ref r1)]))
  obtain ⟨zcl6, zAr6, zq6, zS6, zM6, zH6, zG6⟩ := id vc5
  refine Gl.of (fun _ kq_ => X4.caload hx (j := (1 : Int32)) (v := (.int c1)) (zAr6).1 (State.isArrayOf_alike hZ.alike (zAr6).2.1) (zAr6).2.2 (inb_of zS6 ⟨by decide, by decide⟩) (zH6 1 (by rw [zS6]; decide)) (g := (mkF m 19 #[.val (.ref a1), .val (.int (1 : Int32)), .val (.int (2 : Int32)), .val (.ref r1), .val (.int (1 : Int32))] [(.int (1 : Int32)), (.ref a1), (.int (1 : Int32)), (.ref r1)])) rfl rfl (hb hby d13_19) _ kq_) ?_
  show Gl p e below _ (T4.setTop (mkF m 20 #[.val (.ref a1), .val (.int (1 : Int32)), .val (.int (2 : Int32)), .val (.ref r1), .val (.int (1 : Int32))] [(.int c1), (.int (1 : Int32)), (.ref r1)]))
  refine Gl.callS X4 hx hZ (y := (⟨"java/lang/StringUTF16", "putChar", "([BII)V"⟩ : MethodName)) hown (w93 hw) (w94 hw) (w78 hw) (w95 hw) (desc_ne (by decide)) (rm := { frames := 0, cells := 0, slots := 0, locals := 0 }) (argsL := [(.ref r1), (.int (1 : Int32)), (.int c1)]) (rest := []) (rmP41 l Z a0 hw _ r1 k1 (own_hi c0) (own_lo c0) (0 : Int32) (0 : Int32) c1 n0 Vq4 Gr1 Sa Sh Sl O4) 0 (by decide) (by decide) (by decide) (by decide) rfl (pc := 20) (Ls := #[.val (.ref a1), .val (.int (1 : Int32)), .val (.int (2 : Int32)), .val (.ref r1), .val (.int (1 : Int32))]) (st := [(.int c1), (.int (1 : Int32)), (.ref r1)]) (by rw [hml]; rfl) pd_2 rfl rfl (Nat.le_of_eq rfl) (hb hby d13_20) ?_
  intro v7 T7 L7 X7 hQ7
  obtain ⟨rfl, Nq7, Kq7, Vq7⟩ := hQ7
  have N7 := Fr.app N4 Nq7
  have vc8 := vc5.keep Kq7 (fun q => ne_a1_r1 (List.mem_singleton.mp q))
  have O7 := O4.keep Kq7 (allS Gr1 all0)
  have K7 := K4.trans Kq7 (by intro x hx'; cases List.mem_singleton.mp hx'; exact Or.inr Jr1)
  show Gl p e below _ (T7.setTop (mkF m 23 #[.val (.ref a1), .val (.int (1 : Int32)), .val (.int (2 : Int32)), .val (.ref r1), .val (.int (1 : Int32))] []))
  refine Gl.of (fun _ kq_ => XS.iinc X7.here hx rfl (hb hby d13_23) rfl (l' := #[.val (.ref a1), .val (.int (2 : Int32)), .val (.int (2 : Int32)), .val (.ref r1), .val (.int (1 : Int32))]) rfl kq_) ?_
  show Gl p e below _ (T7.setTop (mkF m 26 #[.val (.ref a1), .val (.int (2 : Int32)), .val (.int (2 : Int32)), .val (.ref r1), .val (.int (1 : Int32))] []))
  refine Gl.of (fun _ kq_ => XS.iinc X7.here hx rfl (hb hby d13_26) rfl (l' := #[.val (.ref a1), .val (.int (2 : Int32)), .val (.int (2 : Int32)), .val (.ref r1), .val (.int (2 : Int32))]) rfl kq_) ?_
  show Gl p e below _ (T7.setTop (mkF m 29 #[.val (.ref a1), .val (.int (2 : Int32)), .val (.int (2 : Int32)), .val (.ref r1), .val (.int (2 : Int32))] []))
  refine Gl.of (fun _ kq_ => XS.goto X7.here hx rfl (pc0 := 29) (pc' := 8) rfl (hb hby d13_29) (by decide) (by decide) kq_) ?_
  show Gl p e below _ (T7.setTop (mkF m 8 #[.val (.ref a1), .val (.int (2 : Int32)), .val (.int (2 : Int32)), .val (.ref r1), .val (.int (2 : Int32))] []))
  refine Gl.of (fun _ kq_ => XS.iload X7.here hx rfl (hb hby d13_8) rfl kq_) ?_
  show Gl p e below _ (T7.setTop (mkF m 10 #[.val (.ref a1), .val (.int (2 : Int32)), .val (.int (2 : Int32)), .val (.ref r1), .val (.int (2 : Int32))] [(.int (2 : Int32))]))
  refine Gl.of (fun _ kq_ => XS.iloadN X7.here hx rfl (hb hby d13_10) rfl kq_) ?_
  show Gl p e below _ (T7.setTop (mkF m 11 #[.val (.ref a1), .val (.int (2 : Int32)), .val (.int (2 : Int32)), .val (.ref r1), .val (.int (2 : Int32))] [(.int (2 : Int32)), (.int (2 : Int32))]))
  refine Gl.of (fun _ kq_ => XS.icmpYes X7.here hx rfl (pc0 := 11) (pc' := 32) rfl (hb hby d13_11) rfl (flt (by decide : ¬ ((2 : Int32) < (2 : Int32)))).2.1 (by decide) (by decide) kq_) ?_
  show Gl p e below _ (T7.setTop (mkF m 32 #[.val (.ref a1), .val (.int (2 : Int32)), .val (.int (2 : Int32)), .val (.ref r1), .val (.int (2 : Int32))] []))
  refine Gl.of (fun _ kq_ => XS.aloadN X7.here hx rfl (hb hby d13_32) rfl rfl kq_) ?_
  show Gl p e below _ (T7.setTop (mkF m 33 #[.val (.ref a1), .val (.int (2 : Int32)), .val (.int (2 : Int32)), .val (.ref r1), .val (.int (2 : Int32))] [(.ref r1)]))
  exact Gl.retR X7 hx hlk hret rfl rfl (hb hby d13_33) rfl (⟨_, _, rfl, Vq7, K7, N7, Gr1, Jr1⟩) (by decide) (by decide)
theorem ef_10 (m : MethodId) (x0 : Addr) (x1 : Int32) : entryFrame m #[(.ref x0), (.int x1)] 2 = mkF m 0 #[.val (.ref x0), .val (.int x1)] [] := by first | (simp [entryFrame, mkF, argsToLocals, Value.category, maxLocals]; done) | rfl
theorem d17_0 : decode jdk_52_method_5_code 0 = .ok (.getstatic 44, 3) := by decide +kernel
theorem d17_3 : decode jdk_52_method_5_code 3 = .ok (.ifCond .ne 25, 3) := by decide +kernel
theorem d17_28 : decode jdk_52_method_5_code 28 = .ok (.iload_n 1, 1) := by decide +kernel
theorem d17_29 : decode jdk_52_method_5_code 29 = .ok (.iconst 1, 1) := by decide +kernel
theorem d17_30 : decode jdk_52_method_5_code 30 = .ok (.ishl, 1) := by decide +kernel
theorem d17_31 : decode jdk_52_method_5_code 31 = .ok (.istore_n 1, 1) := by decide +kernel
theorem d17_32 : decode jdk_52_method_5_code 32 = .ok (.aload_n 0, 1) := by decide +kernel
theorem d17_33 : decode jdk_52_method_5_code 33 = .ok (.iload_n 1, 1) := by decide +kernel
theorem d17_34 : decode jdk_52_method_5_code 34 = .ok (.iinc 1 1, 3) := by decide +kernel
theorem d17_37 : decode jdk_52_method_5_code 37 = .ok (.baload, 1) := by decide +kernel
theorem d17_38 : decode jdk_52_method_5_code 38 = .ok (.sipush 255, 3) := by decide +kernel
theorem d17_41 : decode jdk_52_method_5_code 41 = .ok (.iand, 1) := by decide +kernel
theorem d17_42 : decode jdk_52_method_5_code 42 = .ok (.getstatic 59, 3) := by decide +kernel
theorem d17_45 : decode jdk_52_method_5_code 45 = .ok (.ishl, 1) := by decide +kernel
theorem d17_46 : decode jdk_52_method_5_code 46 = .ok (.aload_n 0, 1) := by decide +kernel
theorem d17_47 : decode jdk_52_method_5_code 47 = .ok (.iload_n 1, 1) := by decide +kernel
theorem d17_48 : decode jdk_52_method_5_code 48 = .ok (.baload, 1) := by decide +kernel
theorem d17_49 : decode jdk_52_method_5_code 49 = .ok (.sipush 255, 3) := by decide +kernel
theorem d17_52 : decode jdk_52_method_5_code 52 = .ok (.iand, 1) := by decide +kernel
theorem d17_53 : decode jdk_52_method_5_code 53 = .ok (.getstatic 63, 3) := by decide +kernel
theorem d17_56 : decode jdk_52_method_5_code 56 = .ok (.ishl, 1) := by decide +kernel
theorem d17_57 : decode jdk_52_method_5_code 57 = .ok (.ior, 1) := by decide +kernel
theorem d17_58 : decode jdk_52_method_5_code 58 = .ok (.i2c, 1) := by decide +kernel
theorem d17_59 : decode jdk_52_method_5_code 59 = .ok (.ireturn, 1) := by decide +kernel
set_option maxRecDepth 65536 in
set_option maxHeartbeats 40000000 in
theorem rmG20 (l : Launch) (Z : State) (a0 : Array Value) (hw : ∀ d ∈ tables_1, d.before a0 Z = true) (h0 : Heap) (a1 : Addr) (kk1 : ClassId) (y0 y1 y2 y3 : Int32) (n0 : Nat) (V1 : Arv Z h0 a1 kk1 .byte (4 : Int32) [.int y0, .int y1, .int y2, .int y3] (.int 0)) (Sa : Sta Z Z.heap "java/lang/StringUTF16" "$assertionsDisabled" "Z" (.int 1)) (Sh : Sta Z Z.heap "java/lang/StringUTF16" "HI_BYTE_SHIFT" "I" (.int 0)) (Sl : Sta Z Z.heap "java/lang/StringUTF16" "LO_BYTE_SHIFT" "I" (.int 8)) (O0 : Old Z n0 h0) : Con l Z (⟨"java/lang/StringUTF16", "getChar", "([BI)C"⟩ : MethodName) jdk_52_method_5_code 2 (some .char) [] ({ frames := 0, cells := 0, slots := 0, locals := 0 } : Room) 0 0 #[(.ref a1), (.int (0 : Int32))] h0 (Pur (fun v => v = some (.int (own_gc y0 y1))) h0) := by
  refine Con.intro (plainFor_of_name pn_0) ?_
  intro p e s m below meth c s₁ X0 hx hby hml hZ hown hnm hret hlk e0 hs0
  refine Gl.of (fun _ kq_ => castTop (ef_10 m a1 (0 : Int32)) kq_) ?_
  show Gl p e below _ (s₁.setTop (mkF m 0 #[.val (.ref a1), .val (.int (0 : Int32))] []))
  obtain ⟨T1, X1, e1, st1⟩ := getS2 X0 hx hZ hown (host := "") (Or.inl (w96 hw)) Via.refl e0 (Sa.ext O0.2) (g := (mkF m 0 #[.val (.ref a1), .val (.int (0 : Int32))] [])) rfl (hb hby d17_0)
  refine Gl.of st1 ?_
  show Gl p e below _ (T1.setTop (mkF m 3 #[.val (.ref a1), .val (.int (0 : Int32))] [(.int (1 : Int32))]))
  refine Gl.of (fun _ kq_ => XS.ifYes X1.here hx rfl (pc0 := 3) (pc' := 28) rfl (hb hby d17_3) rfl ((if0 _ _).trans (feq (by decide : ¬ ((1 : Int32) = (0 : Int32)))).2) (by decide) (by decide) kq_) ?_
  show Gl p e below _ (T1.setTop (mkF m 28 #[.val (.ref a1), .val (.int (0 : Int32))] []))
  refine Gl.of (fun _ kq_ => XS.iloadN X1.here hx rfl (hb hby d17_28) rfl kq_) ?_
  show Gl p e below _ (T1.setTop (mkF m 29 #[.val (.ref a1), .val (.int (0 : Int32))] [(.int (0 : Int32))]))
  refine Gl.of (fun _ kq_ => XS.iconst X1.here hx rfl (hb hby d17_29) kq_) ?_
  show Gl p e below _ (T1.setTop (mkF m 30 #[.val (.ref a1), .val (.int (0 : Int32))] [(.int (1 : Int32)), (.int (0 : Int32))]))
  refine Gl.of (fun _ kq_ => XS.ishl X1.here hx rfl (hb hby d17_30) rfl kq_) ?_
  rw [show ((0 : Int32) <<< ((1 : Int32) &&& 31)) = (0 : Int32) from rfl]
  show Gl p e below _ (T1.setTop (mkF m 31 #[.val (.ref a1), .val (.int (0 : Int32))] [(.int (0 : Int32))]))
  refine Gl.of (fun _ kq_ => XS.istoreN X1.here hx rfl (hb hby d17_31) rfl (l' := #[.val (.ref a1), .val (.int (0 : Int32))]) rfl kq_) ?_
  show Gl p e below _ (T1.setTop (mkF m 32 #[.val (.ref a1), .val (.int (0 : Int32))] []))
  refine Gl.of (fun _ kq_ => XS.aloadN X1.here hx rfl (hb hby d17_32) rfl rfl kq_) ?_
  show Gl p e below _ (T1.setTop (mkF m 33 #[.val (.ref a1), .val (.int (0 : Int32))] [(.ref a1)]))
  refine Gl.of (fun _ kq_ => XS.iloadN X1.here hx rfl (hb hby d17_33) rfl kq_) ?_
  show Gl p e below _ (T1.setTop (mkF m 34 #[.val (.ref a1), .val (.int (0 : Int32))] [(.int (0 : Int32)), (.ref a1)]))
  refine Gl.of (fun _ kq_ => XS.iinc X1.here hx rfl (hb hby d17_34) rfl (l' := #[.val (.ref a1), .val (.int (1 : Int32))]) rfl kq_) ?_
  show Gl p e below _ (T1.setTop (mkF m 37 #[.val (.ref a1), .val (.int (1 : Int32))] [(.int (0 : Int32)), (.ref a1)]))
  obtain ⟨zcl2, zAr2, zq2, zS2, zM2, zH2, zG2⟩ := id V1
  refine Gl.of (fun _ kq_ => X1.baloadBytes hx (j := (0 : Int32)) (v := (.int y0)) (by rw [e1]; exact (zAr2).1) (State.isArrayOf_alike hZ.alike (zAr2).2.1) (zAr2).2.2 (inb_of zS2 ⟨by decide, by decide⟩) (zH2 0 (by rw [zS2]; decide)) (g := (mkF m 37 #[.val (.ref a1), .val (.int (1 : Int32))] [(.int (0 : Int32)), (.ref a1)])) rfl rfl (hb hby d17_37) _ kq_) ?_
  show Gl p e below _ (T1.setTop (mkF m 38 #[.val (.ref a1), .val (.int (1 : Int32))] [(.int y0)]))
  refine Gl.of (fun _ kq_ => XS.sipush X1.here hx rfl (hb hby d17_38) kq_) ?_
  show Gl p e below _ (T1.setTop (mkF m 41 #[.val (.ref a1), .val (.int (1 : Int32))] [(.int (255 : Int32)), (.int y0)]))
  refine Gl.of (fun _ kq_ => XS.iand X1.here hx rfl (hb hby d17_41) rfl kq_) ?_
  show Gl p e below _ (T1.setTop (mkF m 42 #[.val (.ref a1), .val (.int (1 : Int32))] [(.int (y0 &&& (255 : Int32)))]))
  obtain ⟨T3, X3, e3, st3⟩ := getS2 X1 hx hZ hown (host := "") (Or.inl (w97 hw)) Via.refl e1 (Sh.ext O0.2) (g := (mkF m 42 #[.val (.ref a1), .val (.int (1 : Int32))] [(.int (y0 &&& (255 : Int32)))])) rfl (hb hby d17_42)
  refine Gl.of st3 ?_
  show Gl p e below _ (T3.setTop (mkF m 45 #[.val (.ref a1), .val (.int (1 : Int32))] [(.int (0 : Int32)), (.int (y0 &&& (255 : Int32)))]))
  refine Gl.of (fun _ kq_ => XS.ishl X3.here hx rfl (hb hby d17_45) rfl kq_) ?_
  show Gl p e below _ (T3.setTop (mkF m 46 #[.val (.ref a1), .val (.int (1 : Int32))] [(.int ((y0 &&& (255 : Int32)) <<< ((0 : Int32) &&& 31)))]))
  refine Gl.of (fun _ kq_ => XS.aloadN X3.here hx rfl (hb hby d17_46) rfl rfl kq_) ?_
  show Gl p e below _ (T3.setTop (mkF m 47 #[.val (.ref a1), .val (.int (1 : Int32))] [(.ref a1), (.int ((y0 &&& (255 : Int32)) <<< ((0 : Int32) &&& 31)))]))
  refine Gl.of (fun _ kq_ => XS.iloadN X3.here hx rfl (hb hby d17_47) rfl kq_) ?_
  show Gl p e below _ (T3.setTop (mkF m 48 #[.val (.ref a1), .val (.int (1 : Int32))] [(.int (1 : Int32)), (.ref a1), (.int ((y0 &&& (255 : Int32)) <<< ((0 : Int32) &&& 31)))]))
  obtain ⟨zcl4, zAr4, zq4, zS4, zM4, zH4, zG4⟩ := id V1
  refine Gl.of (fun _ kq_ => X3.baloadBytes hx (j := (1 : Int32)) (v := (.int y1)) (by rw [e3]; exact (zAr4).1) (State.isArrayOf_alike hZ.alike (zAr4).2.1) (zAr4).2.2 (inb_of zS4 ⟨by decide, by decide⟩) (zH4 1 (by rw [zS4]; decide)) (g := (mkF m 48 #[.val (.ref a1), .val (.int (1 : Int32))] [(.int (1 : Int32)), (.ref a1), (.int ((y0 &&& (255 : Int32)) <<< ((0 : Int32) &&& 31)))])) rfl rfl (hb hby d17_48) _ kq_) ?_
  show Gl p e below _ (T3.setTop (mkF m 49 #[.val (.ref a1), .val (.int (1 : Int32))] [(.int y1), (.int ((y0 &&& (255 : Int32)) <<< ((0 : Int32) &&& 31)))]))
  refine Gl.of (fun _ kq_ => XS.sipush X3.here hx rfl (hb hby d17_49) kq_) ?_
  show Gl p e below _ (T3.setTop (mkF m 52 #[.val (.ref a1), .val (.int (1 : Int32))] [(.int (255 : Int32)), (.int y1), (.int ((y0 &&& (255 : Int32)) <<< ((0 : Int32) &&& 31)))]))
  refine Gl.of (fun _ kq_ => XS.iand X3.here hx rfl (hb hby d17_52) rfl kq_) ?_
  show Gl p e below _ (T3.setTop (mkF m 53 #[.val (.ref a1), .val (.int (1 : Int32))] [(.int (y1 &&& (255 : Int32))), (.int ((y0 &&& (255 : Int32)) <<< ((0 : Int32) &&& 31)))]))
  obtain ⟨T5, X5, e5, st5⟩ := getS2 X3 hx hZ hown (host := "") (Or.inl (w98 hw)) Via.refl e3 (Sl.ext O0.2) (g := (mkF m 53 #[.val (.ref a1), .val (.int (1 : Int32))] [(.int (y1 &&& (255 : Int32))), (.int ((y0 &&& (255 : Int32)) <<< ((0 : Int32) &&& 31)))])) rfl (hb hby d17_53)
  refine Gl.of st5 ?_
  show Gl p e below _ (T5.setTop (mkF m 56 #[.val (.ref a1), .val (.int (1 : Int32))] [(.int (8 : Int32)), (.int (y1 &&& (255 : Int32))), (.int ((y0 &&& (255 : Int32)) <<< ((0 : Int32) &&& 31)))]))
  refine Gl.of (fun _ kq_ => XS.ishl X5.here hx rfl (hb hby d17_56) rfl kq_) ?_
  show Gl p e below _ (T5.setTop (mkF m 57 #[.val (.ref a1), .val (.int (1 : Int32))] [(.int ((y1 &&& (255 : Int32)) <<< ((8 : Int32) &&& 31))), (.int ((y0 &&& (255 : Int32)) <<< ((0 : Int32) &&& 31)))]))
  refine Gl.of (fun _ kq_ => XS.ior X5.here hx rfl (hb hby d17_57) rfl kq_) ?_
  show Gl p e below _ (T5.setTop (mkF m 58 #[.val (.ref a1), .val (.int (1 : Int32))] [(.int (((y0 &&& (255 : Int32)) <<< ((0 : Int32) &&& 31)) ||| ((y1 &&& (255 : Int32)) <<< ((8 : Int32) &&& 31))))]))
  refine Gl.of (fun _ kq_ => XS.i2c X5.here hx rfl (hb hby d17_58) rfl kq_) ?_
  show Gl p e below _ (T5.setTop (mkF m 59 #[.val (.ref a1), .val (.int (1 : Int32))] [(.int ((((y0 &&& (255 : Int32)) <<< ((0 : Int32) &&& 31)) ||| ((y1 &&& (255 : Int32)) <<< ((8 : Int32) &&& 31))).toUInt32.toUInt16.toUInt32.toInt32))]))
  exact Gl.retN X5 hx hlk hret (by simp) (hb hby d17_59) e5 (⟨rfl, rfl, rfl⟩) (by decide) (by decide)
theorem ef_11 (m : MethodId) (x0 : Addr) (x1 : Int32) : entryFrame m #[(.ref x0), (.int x1)] 2 = mkF m 0 #[.val (.ref x0), .val (.int x1)] [] := by first | (simp [entryFrame, mkF, argsToLocals, Value.category, maxLocals]; done) | rfl
set_option maxRecDepth 65536 in
set_option maxHeartbeats 40000000 in
theorem rmG21 (l : Launch) (Z : State) (a0 : Array Value) (hw : ∀ d ∈ tables_1, d.before a0 Z = true) (h0 : Heap) (a1 : Addr) (kk1 : ClassId) (y0 y1 y2 y3 : Int32) (n0 : Nat) (V1 : Arv Z h0 a1 kk1 .byte (4 : Int32) [.int y0, .int y1, .int y2, .int y3] (.int 0)) (Sa : Sta Z Z.heap "java/lang/StringUTF16" "$assertionsDisabled" "Z" (.int 1)) (Sh : Sta Z Z.heap "java/lang/StringUTF16" "HI_BYTE_SHIFT" "I" (.int 0)) (Sl : Sta Z Z.heap "java/lang/StringUTF16" "LO_BYTE_SHIFT" "I" (.int 8)) (O0 : Old Z n0 h0) : Con l Z (⟨"java/lang/StringUTF16", "getChar", "([BI)C"⟩ : MethodName) jdk_52_method_5_code 2 (some .char) [] ({ frames := 0, cells := 0, slots := 0, locals := 0 } : Room) 0 0 #[(.ref a1), (.int (1 : Int32))] h0 (Pur (fun v => v = some (.int (own_gc y2 y3))) h0) := by
  refine Con.intro (plainFor_of_name pn_0) ?_
  intro p e s m below meth c s₁ X0 hx hby hml hZ hown hnm hret hlk e0 hs0
  refine Gl.of (fun _ kq_ => castTop (ef_11 m a1 (1 : Int32)) kq_) ?_
  show Gl p e below _ (s₁.setTop (mkF m 0 #[.val (.ref a1), .val (.int (1 : Int32))] []))
  obtain ⟨T1, X1, e1, st1⟩ := getS2 X0 hx hZ hown (host := "") (Or.inl (w96 hw)) Via.refl e0 (Sa.ext O0.2) (g := (mkF m 0 #[.val (.ref a1), .val (.int (1 : Int32))] [])) rfl (hb hby d17_0)
  refine Gl.of st1 ?_
  show Gl p e below _ (T1.setTop (mkF m 3 #[.val (.ref a1), .val (.int (1 : Int32))] [(.int (1 : Int32))]))
  refine Gl.of (fun _ kq_ => XS.ifYes X1.here hx rfl (pc0 := 3) (pc' := 28) rfl (hb hby d17_3) rfl ((if0 _ _).trans (feq (by decide : ¬ ((1 : Int32) = (0 : Int32)))).2) (by decide) (by decide) kq_) ?_
  show Gl p e below _ (T1.setTop (mkF m 28 #[.val (.ref a1), .val (.int (1 : Int32))] []))
  refine Gl.of (fun _ kq_ => XS.iloadN X1.here hx rfl (hb hby d17_28) rfl kq_) ?_
  show Gl p e below _ (T1.setTop (mkF m 29 #[.val (.ref a1), .val (.int (1 : Int32))] [(.int (1 : Int32))]))
  refine Gl.of (fun _ kq_ => XS.iconst X1.here hx rfl (hb hby d17_29) kq_) ?_
  show Gl p e below _ (T1.setTop (mkF m 30 #[.val (.ref a1), .val (.int (1 : Int32))] [(.int (1 : Int32)), (.int (1 : Int32))]))
  refine Gl.of (fun _ kq_ => XS.ishl X1.here hx rfl (hb hby d17_30) rfl kq_) ?_
  rw [show ((1 : Int32) <<< ((1 : Int32) &&& 31)) = (2 : Int32) from rfl]
  show Gl p e below _ (T1.setTop (mkF m 31 #[.val (.ref a1), .val (.int (1 : Int32))] [(.int (2 : Int32))]))
  refine Gl.of (fun _ kq_ => XS.istoreN X1.here hx rfl (hb hby d17_31) rfl (l' := #[.val (.ref a1), .val (.int (2 : Int32))]) rfl kq_) ?_
  show Gl p e below _ (T1.setTop (mkF m 32 #[.val (.ref a1), .val (.int (2 : Int32))] []))
  refine Gl.of (fun _ kq_ => XS.aloadN X1.here hx rfl (hb hby d17_32) rfl rfl kq_) ?_
  show Gl p e below _ (T1.setTop (mkF m 33 #[.val (.ref a1), .val (.int (2 : Int32))] [(.ref a1)]))
  refine Gl.of (fun _ kq_ => XS.iloadN X1.here hx rfl (hb hby d17_33) rfl kq_) ?_
  show Gl p e below _ (T1.setTop (mkF m 34 #[.val (.ref a1), .val (.int (2 : Int32))] [(.int (2 : Int32)), (.ref a1)]))
  refine Gl.of (fun _ kq_ => XS.iinc X1.here hx rfl (hb hby d17_34) rfl (l' := #[.val (.ref a1), .val (.int (3 : Int32))]) rfl kq_) ?_
  show Gl p e below _ (T1.setTop (mkF m 37 #[.val (.ref a1), .val (.int (3 : Int32))] [(.int (2 : Int32)), (.ref a1)]))
  obtain ⟨zcl2, zAr2, zq2, zS2, zM2, zH2, zG2⟩ := id V1
  refine Gl.of (fun _ kq_ => X1.baloadBytes hx (j := (2 : Int32)) (v := (.int y2)) (by rw [e1]; exact (zAr2).1) (State.isArrayOf_alike hZ.alike (zAr2).2.1) (zAr2).2.2 (inb_of zS2 ⟨by decide, by decide⟩) (zH2 2 (by rw [zS2]; decide)) (g := (mkF m 37 #[.val (.ref a1), .val (.int (3 : Int32))] [(.int (2 : Int32)), (.ref a1)])) rfl rfl (hb hby d17_37) _ kq_) ?_
  show Gl p e below _ (T1.setTop (mkF m 38 #[.val (.ref a1), .val (.int (3 : Int32))] [(.int y2)]))
  refine Gl.of (fun _ kq_ => XS.sipush X1.here hx rfl (hb hby d17_38) kq_) ?_
  show Gl p e below _ (T1.setTop (mkF m 41 #[.val (.ref a1), .val (.int (3 : Int32))] [(.int (255 : Int32)), (.int y2)]))
  refine Gl.of (fun _ kq_ => XS.iand X1.here hx rfl (hb hby d17_41) rfl kq_) ?_
  show Gl p e below _ (T1.setTop (mkF m 42 #[.val (.ref a1), .val (.int (3 : Int32))] [(.int (y2 &&& (255 : Int32)))]))
  obtain ⟨T3, X3, e3, st3⟩ := getS2 X1 hx hZ hown (host := "") (Or.inl (w97 hw)) Via.refl e1 (Sh.ext O0.2) (g := (mkF m 42 #[.val (.ref a1), .val (.int (3 : Int32))] [(.int (y2 &&& (255 : Int32)))])) rfl (hb hby d17_42)
  refine Gl.of st3 ?_
  show Gl p e below _ (T3.setTop (mkF m 45 #[.val (.ref a1), .val (.int (3 : Int32))] [(.int (0 : Int32)), (.int (y2 &&& (255 : Int32)))]))
  refine Gl.of (fun _ kq_ => XS.ishl X3.here hx rfl (hb hby d17_45) rfl kq_) ?_
  show Gl p e below _ (T3.setTop (mkF m 46 #[.val (.ref a1), .val (.int (3 : Int32))] [(.int ((y2 &&& (255 : Int32)) <<< ((0 : Int32) &&& 31)))]))
  refine Gl.of (fun _ kq_ => XS.aloadN X3.here hx rfl (hb hby d17_46) rfl rfl kq_) ?_
  show Gl p e below _ (T3.setTop (mkF m 47 #[.val (.ref a1), .val (.int (3 : Int32))] [(.ref a1), (.int ((y2 &&& (255 : Int32)) <<< ((0 : Int32) &&& 31)))]))
  refine Gl.of (fun _ kq_ => XS.iloadN X3.here hx rfl (hb hby d17_47) rfl kq_) ?_
  show Gl p e below _ (T3.setTop (mkF m 48 #[.val (.ref a1), .val (.int (3 : Int32))] [(.int (3 : Int32)), (.ref a1), (.int ((y2 &&& (255 : Int32)) <<< ((0 : Int32) &&& 31)))]))
  obtain ⟨zcl4, zAr4, zq4, zS4, zM4, zH4, zG4⟩ := id V1
  refine Gl.of (fun _ kq_ => X3.baloadBytes hx (j := (3 : Int32)) (v := (.int y3)) (by rw [e3]; exact (zAr4).1) (State.isArrayOf_alike hZ.alike (zAr4).2.1) (zAr4).2.2 (inb_of zS4 ⟨by decide, by decide⟩) (zH4 3 (by rw [zS4]; decide)) (g := (mkF m 48 #[.val (.ref a1), .val (.int (3 : Int32))] [(.int (3 : Int32)), (.ref a1), (.int ((y2 &&& (255 : Int32)) <<< ((0 : Int32) &&& 31)))])) rfl rfl (hb hby d17_48) _ kq_) ?_
  show Gl p e below _ (T3.setTop (mkF m 49 #[.val (.ref a1), .val (.int (3 : Int32))] [(.int y3), (.int ((y2 &&& (255 : Int32)) <<< ((0 : Int32) &&& 31)))]))
  refine Gl.of (fun _ kq_ => XS.sipush X3.here hx rfl (hb hby d17_49) kq_) ?_
  show Gl p e below _ (T3.setTop (mkF m 52 #[.val (.ref a1), .val (.int (3 : Int32))] [(.int (255 : Int32)), (.int y3), (.int ((y2 &&& (255 : Int32)) <<< ((0 : Int32) &&& 31)))]))
  refine Gl.of (fun _ kq_ => XS.iand X3.here hx rfl (hb hby d17_52) rfl kq_) ?_
  show Gl p e below _ (T3.setTop (mkF m 53 #[.val (.ref a1), .val (.int (3 : Int32))] [(.int (y3 &&& (255 : Int32))), (.int ((y2 &&& (255 : Int32)) <<< ((0 : Int32) &&& 31)))]))
  obtain ⟨T5, X5, e5, st5⟩ := getS2 X3 hx hZ hown (host := "") (Or.inl (w98 hw)) Via.refl e3 (Sl.ext O0.2) (g := (mkF m 53 #[.val (.ref a1), .val (.int (3 : Int32))] [(.int (y3 &&& (255 : Int32))), (.int ((y2 &&& (255 : Int32)) <<< ((0 : Int32) &&& 31)))])) rfl (hb hby d17_53)
  refine Gl.of st5 ?_
  show Gl p e below _ (T5.setTop (mkF m 56 #[.val (.ref a1), .val (.int (3 : Int32))] [(.int (8 : Int32)), (.int (y3 &&& (255 : Int32))), (.int ((y2 &&& (255 : Int32)) <<< ((0 : Int32) &&& 31)))]))
  refine Gl.of (fun _ kq_ => XS.ishl X5.here hx rfl (hb hby d17_56) rfl kq_) ?_
  show Gl p e below _ (T5.setTop (mkF m 57 #[.val (.ref a1), .val (.int (3 : Int32))] [(.int ((y3 &&& (255 : Int32)) <<< ((8 : Int32) &&& 31))), (.int ((y2 &&& (255 : Int32)) <<< ((0 : Int32) &&& 31)))]))
  refine Gl.of (fun _ kq_ => XS.ior X5.here hx rfl (hb hby d17_57) rfl kq_) ?_
  show Gl p e below _ (T5.setTop (mkF m 58 #[.val (.ref a1), .val (.int (3 : Int32))] [(.int (((y2 &&& (255 : Int32)) <<< ((0 : Int32) &&& 31)) ||| ((y3 &&& (255 : Int32)) <<< ((8 : Int32) &&& 31))))]))
  refine Gl.of (fun _ kq_ => XS.i2c X5.here hx rfl (hb hby d17_58) rfl kq_) ?_
  show Gl p e below _ (T5.setTop (mkF m 59 #[.val (.ref a1), .val (.int (3 : Int32))] [(.int ((((y2 &&& (255 : Int32)) <<< ((0 : Int32) &&& 31)) ||| ((y3 &&& (255 : Int32)) <<< ((8 : Int32) &&& 31))).toUInt32.toUInt16.toUInt32.toInt32))]))
  exact Gl.retN X5 hx hlk hret (by simp) (hb hby d17_59) e5 (⟨rfl, rfl, rfl⟩) (by decide) (by decide)
theorem ef_12 (m : MethodId) (x0 : Addr) (x1 : Int32) (x2 : Addr) (x3 : Int32) (x4 : Int32) : entryFrame m #[(.ref x0), (.int x1), (.ref x2), (.int x3), (.int x4)] 7 = mkF m 0 #[.val (.ref x0), .val (.int x1), .val (.ref x2), .val (.int x3), .val (.int x4), .unset, .unset] [] := by first | (simp [entryFrame, mkF, argsToLocals, Value.category, maxLocals]; done) | rfl
theorem d12_0 : decode jdk_52_method_21_code 0 = .ok (.iconst 0, 1) := by decide +kernel
theorem d12_1 : decode jdk_52_method_21_code 1 = .ok (.istore 5, 2) := by decide +kernel
theorem d12_3 : decode jdk_52_method_21_code 3 = .ok (.iload 5, 2) := by decide +kernel
theorem d12_5 : decode jdk_52_method_21_code 5 = .ok (.iload 4, 2) := by decide +kernel
theorem d12_7 : decode jdk_52_method_21_code 7 = .ok (.if_icmp .ge 37, 3) := by decide +kernel
theorem d12_10 : decode jdk_52_method_21_code 10 = .ok (.aload_n 0, 1) := by decide +kernel
theorem d12_11 : decode jdk_52_method_21_code 11 = .ok (.iload_n 1, 1) := by decide +kernel
theorem d12_12 : decode jdk_52_method_21_code 12 = .ok (.caload, 1) := by decide +kernel
theorem d12_13 : decode jdk_52_method_21_code 13 = .ok (.istore 6, 2) := by decide +kernel
theorem d12_15 : decode jdk_52_method_21_code 15 = .ok (.iload 6, 2) := by decide +kernel
theorem d12_17 : decode jdk_52_method_21_code 17 = .ok (.sipush 255, 3) := by decide +kernel
theorem d12_20 : decode jdk_52_method_21_code 20 = .ok (.if_icmp .le 6, 3) := by decide +kernel
theorem d12_23 : decode jdk_52_method_21_code 23 = .ok (.iload 5, 2) := by decide +kernel
theorem d12_25 : decode jdk_52_method_21_code 25 = .ok (.ireturn, 1) := by decide +kernel
theorem d12_26 : decode jdk_52_method_21_code 26 = .ok (.aload_n 2, 1) := by decide +kernel
theorem d12_27 : decode jdk_52_method_21_code 27 = .ok (.iload_n 3, 1) := by decide +kernel
theorem d12_28 : decode jdk_52_method_21_code 28 = .ok (.iload 6, 2) := by decide +kernel
theorem d12_30 : decode jdk_52_method_21_code 30 = .ok (.i2b, 1) := by decide +kernel
theorem d12_31 : decode jdk_52_method_21_code 31 = .ok (.bastore, 1) := by decide +kernel
theorem d12_32 : decode jdk_52_method_21_code 32 = .ok (.iinc 1 1, 3) := by decide +kernel
theorem d12_35 : decode jdk_52_method_21_code 35 = .ok (.iinc 3 1, 3) := by decide +kernel
theorem d12_38 : decode jdk_52_method_21_code 38 = .ok (.iinc 5 1, 3) := by decide +kernel
theorem d12_41 : decode jdk_52_method_21_code 41 = .ok (.goto (-38), 3) := by decide +kernel
theorem d12_44 : decode jdk_52_method_21_code 44 = .ok (.iload 4, 2) := by decide +kernel
theorem d12_46 : decode jdk_52_method_21_code 46 = .ok (.ireturn, 1) := by decide +kernel
set_option maxRecDepth 65536 in
set_option maxHeartbeats 40000000 in
theorem rmK2 (l : Launch) (Z : State) (a0 : Array Value) (hw : ∀ d ∈ tables_1, d.before a0 Z = true) (h0 : Heap) (a1 a2 : Addr) (kk1 kk2 : ClassId) (c0 c1 : Int32) (n0 : Nat) (V1 : Arv Z h0 a1 kk1 .char (2 : Int32) [.int c0, .int c1] (.int 0)) (V2 : Arv Z h0 a2 kk2 .byte (2 : Int32) [.int (0 : Int32), .int (0 : Int32)] (.int 0)) (hne : ¬ a1 = a2) (Ga2 : n0 ≤ a2) (O0 : Old Z n0 h0) : Con l Z (⟨"java/lang/StringUTF16", "compress", "([CI[BII)I"⟩ : MethodName) jdk_52_method_21_code 7 (some .int) [] ({ frames := 0, cells := 0, slots := 0, locals := 0 } : Room) 0 0 #[(.ref a1), (.int (0 : Int32)), (.ref a2), (.int (0 : Int32)), (.int (2 : Int32))] h0 (fun v h L => ∃ r vs, v = some (.int r) ∧ Fr n0 L ∧ Keep h0 h [a2] ∧ Arv Z h a2 kk2 .byte (2 : Int32) vs (.int 0) ∧ (r = (2 : Int32) ∨ (r = (0 : Int32) ∧ (255 : Int32) < c0) ∨ (r = (1 : Int32) ∧ (255 : Int32) < c1))) := by
  refine Con.intro (plainFor_of_name pn_0) ?_
  intro p e s m below meth c s₁ X0 hx hby hml hZ hown hnm hret hlk e0 hs0
  refine Gl.of (fun _ kq_ => castTop (ef_12 m a1 (0 : Int32) a2 (0 : Int32) (2 : Int32)) kq_) ?_
  have K0 := Keep.refl h0 [a2]
  show Gl p e below _ (s₁.setTop (mkF m 0 #[.val (.ref a1), .val (.int (0 : Int32)), .val (.ref a2), .val (.int (0 : Int32)), .val (.int (2 : Int32)), .unset, .unset] []))
  refine Gl.of (fun _ kq_ => XS.iconst X0.here hx rfl (hb hby d12_0) kq_) ?_
  show Gl p e below _ (s₁.setTop (mkF m 1 #[.val (.ref a1), .val (.int (0 : Int32)), .val (.ref a2), .val (.int (0 : Int32)), .val (.int (2 : Int32)), .unset, .unset] [(.int (0 : Int32))]))
  refine Gl.of (fun _ kq_ => XS.istore X0.here hx rfl (hb hby d12_1) rfl (l' := #[.val (.ref a1), .val (.int (0 : Int32)), .val (.ref a2), .val (.int (0 : Int32)), .val (.int (2 : Int32)), .val (.int (0 : Int32)), .unset]) rfl kq_) ?_
  show Gl p e below _ (s₁.setTop (mkF m 3 #[.val (.ref a1), .val (.int (0 : Int32)), .val (.ref a2), .val (.int (0 : Int32)), .val (.int (2 : Int32)), .val (.int (0 : Int32)), .unset] []))
  refine Gl.of (fun _ kq_ => XS.iload X0.here hx rfl (hb hby d12_3) rfl kq_) ?_
  show Gl p e below _ (s₁.setTop (mkF m 5 #[.val (.ref a1), .val (.int (0 : Int32)), .val (.ref a2), .val (.int (0 : Int32)), .val (.int (2 : Int32)), .val (.int (0 : Int32)), .unset] [(.int (0 : Int32))]))
  refine Gl.of (fun _ kq_ => XS.iload X0.here hx rfl (hb hby d12_5) rfl kq_) ?_
  show Gl p e below _ (s₁.setTop (mkF m 7 #[.val (.ref a1), .val (.int (0 : Int32)), .val (.ref a2), .val (.int (0 : Int32)), .val (.int (2 : Int32)), .val (.int (0 : Int32)), .unset] [(.int (2 : Int32)), (.int (0 : Int32))]))
  refine Gl.of (fun _ kq_ => XS.icmpNo X0.here hx rfl (hb hby d12_7) rfl (tlt (by decide : (0 : Int32) < (2 : Int32))).2.1 kq_) ?_
  show Gl p e below _ (s₁.setTop (mkF m 10 #[.val (.ref a1), .val (.int (0 : Int32)), .val (.ref a2), .val (.int (0 : Int32)), .val (.int (2 : Int32)), .val (.int (0 : Int32)), .unset] []))
  refine Gl.of (fun _ kq_ => XS.aloadN X0.here hx rfl (hb hby d12_10) rfl rfl kq_) ?_
  show Gl p e below _ (s₁.setTop (mkF m 11 #[.val (.ref a1), .val (.int (0 : Int32)), .val (.ref a2), .val (.int (0 : Int32)), .val (.int (2 : Int32)), .val (.int (0 : Int32)), .unset] [(.ref a1)]))
  refine Gl.of (fun _ kq_ => XS.iloadN X0.here hx rfl (hb hby d12_11) rfl kq_) ?_
  show Gl p e below _ (s₁.setTop (mkF m 12 #[.val (.ref a1), .val (.int (0 : Int32)), .val (.ref a2), .val (.int (0 : Int32)), .val (.int (2 : Int32)), .val (.int (0 : Int32)), .unset] [(.int (0 : Int32)), (.ref a1)]))
  obtain ⟨zcl1, zAr1, zq1, zS1, zM1, zH1, zG1⟩ := id V1
  refine Gl.of (fun _ kq_ => X0.caload hx (j := (0 : Int32)) (v := (.int c0)) (by rw [e0]; exact (zAr1).1) (State.isArrayOf_alike hZ.alike (zAr1).2.1) (zAr1).2.2 (inb_of zS1 ⟨by decide, by decide⟩) (zH1 0 (by rw [zS1]; decide)) (g := (mkF m 12 #[.val (.ref a1), .val (.int (0 : Int32)), .val (.ref a2), .val (.int (0 : Int32)), .val (.int (2 : Int32)), .val (.int (0 : Int32)), .unset] [(.int (0 : Int32)), (.ref a1)])) rfl rfl (hb hby d12_12) _ kq_) ?_
  show Gl p e below _ (s₁.setTop (mkF m 13 #[.val (.ref a1), .val (.int (0 : Int32)), .val (.ref a2), .val (.int (0 : Int32)), .val (.int (2 : Int32)), .val (.int (0 : Int32)), .unset] [(.int c0)]))
  refine Gl.of (fun _ kq_ => XS.istore X0.here hx rfl (hb hby d12_13) rfl (l' := #[.val (.ref a1), .val (.int (0 : Int32)), .val (.ref a2), .val (.int (0 : Int32)), .val (.int (2 : Int32)), .val (.int (0 : Int32)), .val (.int c0)]) rfl kq_) ?_
  show Gl p e below _ (s₁.setTop (mkF m 15 #[.val (.ref a1), .val (.int (0 : Int32)), .val (.ref a2), .val (.int (0 : Int32)), .val (.int (2 : Int32)), .val (.int (0 : Int32)), .val (.int c0)] []))
  refine Gl.of (fun _ kq_ => XS.iload X0.here hx rfl (hb hby d12_15) rfl kq_) ?_
  show Gl p e below _ (s₁.setTop (mkF m 17 #[.val (.ref a1), .val (.int (0 : Int32)), .val (.ref a2), .val (.int (0 : Int32)), .val (.int (2 : Int32)), .val (.int (0 : Int32)), .val (.int c0)] [(.int c0)]))
  refine Gl.of (fun _ kq_ => XS.sipush X0.here hx rfl (hb hby d12_17) kq_) ?_
  show Gl p e below _ (s₁.setTop (mkF m 20 #[.val (.ref a1), .val (.int (0 : Int32)), .val (.ref a2), .val (.int (0 : Int32)), .val (.int (2 : Int32)), .val (.int (0 : Int32)), .val (.int c0)] [(.int (255 : Int32)), (.int c0)]))
  by_cases hc20_2 : (255 : Int32) < c0
  · refine Gl.of (fun _ kq_ => XS.icmpNo X0.here hx rfl (hb hby d12_20) rfl (tlt hc20_2).2.2.2 kq_) ?_
    show Gl p e below _ (s₁.setTop (mkF m 23 #[.val (.ref a1), .val (.int (0 : Int32)), .val (.ref a2), .val (.int (0 : Int32)), .val (.int (2 : Int32)), .val (.int (0 : Int32)), .val (.int c0)] []))
    refine Gl.of (fun _ kq_ => XS.iload X0.here hx rfl (hb hby d12_23) rfl kq_) ?_
    show Gl p e below _ (s₁.setTop (mkF m 25 #[.val (.ref a1), .val (.int (0 : Int32)), .val (.ref a2), .val (.int (0 : Int32)), .val (.int (2 : Int32)), .val (.int (0 : Int32)), .val (.int c0)] [(.int (0 : Int32))]))
    exact Gl.retI X0 hx hlk hret (hb hby d12_25) e0 (⟨_, _, rfl, (Fr.nil n0), K0, V2, Or.inr (Or.inl ⟨rfl, hc20_2⟩)⟩) (by decide) (by decide)
  · refine Gl.of (fun _ kq_ => XS.icmpYes X0.here hx rfl (pc0 := 20) (pc' := 26) rfl (hb hby d12_20) rfl (flt hc20_2).2.2.2 (by decide) (by decide) kq_) ?_
    show Gl p e below _ (s₁.setTop (mkF m 26 #[.val (.ref a1), .val (.int (0 : Int32)), .val (.ref a2), .val (.int (0 : Int32)), .val (.int (2 : Int32)), .val (.int (0 : Int32)), .val (.int c0)] []))
    refine Gl.of (fun _ kq_ => XS.aloadN X0.here hx rfl (hb hby d12_26) rfl rfl kq_) ?_
    show Gl p e below _ (s₁.setTop (mkF m 27 #[.val (.ref a1), .val (.int (0 : Int32)), .val (.ref a2), .val (.int (0 : Int32)), .val (.int (2 : Int32)), .val (.int (0 : Int32)), .val (.int c0)] [(.ref a2)]))
    refine Gl.of (fun _ kq_ => XS.iloadN X0.here hx rfl (hb hby d12_27) rfl kq_) ?_
    show Gl p e below _ (s₁.setTop (mkF m 28 #[.val (.ref a1), .val (.int (0 : Int32)), .val (.ref a2), .val (.int (0 : Int32)), .val (.int (2 : Int32)), .val (.int (0 : Int32)), .val (.int c0)] [(.int (0 : Int32)), (.ref a2)]))
    refine Gl.of (fun _ kq_ => XS.iload X0.here hx rfl (hb hby d12_28) rfl kq_) ?_
    show Gl p e below _ (s₁.setTop (mkF m 30 #[.val (.ref a1), .val (.int (0 : Int32)), .val (.ref a2), .val (.int (0 : Int32)), .val (.int (2 : Int32)), .val (.int (0 : Int32)), .val (.int c0)] [(.int c0), (.int (0 : Int32)), (.ref a2)]))
    refine Gl.of (fun _ kq_ => XS.i2b X0.here hx rfl (hb hby d12_30) rfl kq_) ?_
    show Gl p e below _ (s₁.setTop (mkF m 31 #[.val (.ref a1), .val (.int (0 : Int32)), .val (.ref a2), .val (.int (0 : Int32)), .val (.int (2 : Int32)), .val (.int (0 : Int32)), .val (.int c0)] [(.int (c0.toInt8.toInt32)), (.int (0 : Int32)), (.ref a2)]))
    obtain ⟨zcl3, zAr3, zq3, zS3, zM3, zH3, zG3⟩ := id V2
    obtain ⟨T4, h4, X4, e4, W4, st4⟩ := stB X0 hx hZ e0 zAr3 (j := (0 : Int32)) (inb_of zS3 ⟨by decide, by decide⟩) (g := (mkF m 31 #[.val (.ref a1), .val (.int (0 : Int32)), .val (.ref a2), .val (.int (0 : Int32)), .val (.int (2 : Int32)), .val (.int (0 : Int32)), .val (.int c0)] [(.int (c0.toInt8.toInt32)), (.int (0 : Int32)), (.ref a2)])) rfl rfl (hb hby d12_31)
    refine Gl.of st4 ?_
    have V4 : Arv Z h4 a2 kk2 .byte (2 : Int32) [(.int (nar .byte (c0.toInt8.toInt32))), (.int (0 : Int32))] (.int 0) := Arv.set zAr3 zq3 zS3 zM3 zH3 zG3 (fits_nar_byte _) W4 0 rfl (Nat.le_of_ble_eq_true rfl)
    have vc5 := V1.other W4 hne
    have N4 := Fr.snoc X4 (Fr.nil n0) Ga2
    have O4 := O0.wr W4 Ga2
    have K4 := K0.wr W4 (Or.inl (List.mem_of_getElem? (i := 0) rfl))
    show Gl p e below _ (T4.setTop (mkF m 32 #[.val (.ref a1), .val (.int (0 : Int32)), .val (.ref a2), .val (.int (0 : Int32)), .val (.int (2 : Int32)), .val (.int (0 : Int32)), .val (.int c0)] []))
    refine Gl.of (fun _ kq_ => XS.iinc X4.here hx rfl (hb hby d12_32) rfl (l' := #[.val (.ref a1), .val (.int (1 : Int32)), .val (.ref a2), .val (.int (0 : Int32)), .val (.int (2 : Int32)), .val (.int (0 : Int32)), .val (.int c0)]) rfl kq_) ?_
    show Gl p e below _ (T4.setTop (mkF m 35 #[.val (.ref a1), .val (.int (1 : Int32)), .val (.ref a2), .val (.int (0 : Int32)), .val (.int (2 : Int32)), .val (.int (0 : Int32)), .val (.int c0)] []))
    refine Gl.of (fun _ kq_ => XS.iinc X4.here hx rfl (hb hby d12_35) rfl (l' := #[.val (.ref a1), .val (.int (1 : Int32)), .val (.ref a2), .val (.int (1 : Int32)), .val (.int (2 : Int32)), .val (.int (0 : Int32)), .val (.int c0)]) rfl kq_) ?_
    show Gl p e below _ (T4.setTop (mkF m 38 #[.val (.ref a1), .val (.int (1 : Int32)), .val (.ref a2), .val (.int (1 : Int32)), .val (.int (2 : Int32)), .val (.int (0 : Int32)), .val (.int c0)] []))
    refine Gl.of (fun _ kq_ => XS.iinc X4.here hx rfl (hb hby d12_38) rfl (l' := #[.val (.ref a1), .val (.int (1 : Int32)), .val (.ref a2), .val (.int (1 : Int32)), .val (.int (2 : Int32)), .val (.int (1 : Int32)), .val (.int c0)]) rfl kq_) ?_
    show Gl p e below _ (T4.setTop (mkF m 41 #[.val (.ref a1), .val (.int (1 : Int32)), .val (.ref a2), .val (.int (1 : Int32)), .val (.int (2 : Int32)), .val (.int (1 : Int32)), .val (.int c0)] []))
    refine Gl.of (fun _ kq_ => XS.goto X4.here hx rfl (pc0 := 41) (pc' := 3) rfl (hb hby d12_41) (by decide) (by decide) kq_) ?_
    show Gl p e below _ (T4.setTop (mkF m 3 #[.val (.ref a1), .val (.int (1 : Int32)), .val (.ref a2), .val (.int (1 : Int32)), .val (.int (2 : Int32)), .val (.int (1 : Int32)), .val (.int c0)] []))
    refine Gl.of (fun _ kq_ => XS.iload X4.here hx rfl (hb hby d12_3) rfl kq_) ?_
    show Gl p e below _ (T4.setTop (mkF m 5 #[.val (.ref a1), .val (.int (1 : Int32)), .val (.ref a2), .val (.int (1 : Int32)), .val (.int (2 : Int32)), .val (.int (1 : Int32)), .val (.int c0)] [(.int (1 : Int32))]))
    refine Gl.of (fun _ kq_ => XS.iload X4.here hx rfl (hb hby d12_5) rfl kq_) ?_
    show Gl p e below _ (T4.setTop (mkF m 7 #[.val (.ref a1), .val (.int (1 : Int32)), .val (.ref a2), .val (.int (1 : Int32)), .val (.int (2 : Int32)), .val (.int (1 : Int32)), .val (.int c0)] [(.int (2 : Int32)), (.int (1 : Int32))]))
    refine Gl.of (fun _ kq_ => XS.icmpNo X4.here hx rfl (hb hby d12_7) rfl (tlt (by decide : (1 : Int32) < (2 : Int32))).2.1 kq_) ?_
    show Gl p e below _ (T4.setTop (mkF m 10 #[.val (.ref a1), .val (.int (1 : Int32)), .val (.ref a2), .val (.int (1 : Int32)), .val (.int (2 : Int32)), .val (.int (1 : Int32)), .val (.int c0)] []))
    refine Gl.of (fun _ kq_ => XS.aloadN X4.here hx rfl (hb hby d12_10) rfl rfl kq_) ?_
    show Gl p e below _ (T4.setTop (mkF m 11 #[.val (.ref a1), .val (.int (1 : Int32)), .val (.ref a2), .val (.int (1 : Int32)), .val (.int (2 : Int32)), .val (.int (1 : Int32)), .val (.int c0)] [(.ref a1)]))
    refine Gl.of (fun _ kq_ => XS.iloadN X4.here hx rfl (hb hby d12_11) rfl kq_) ?_
    show Gl p e below _ (T4.setTop (mkF m 12 #[.val (.ref a1), .val (.int (1 : Int32)), .val (.ref a2), .val (.int (1 : Int32)), .val (.int (2 : Int32)), .val (.int (1 : Int32)), .val (.int c0)] [(.int (1 : Int32)), (.ref a1)]))
    obtain ⟨zcl6, zAr6, zq6, zS6, zM6, zH6, zG6⟩ := id vc5
    refine Gl.of (fun _ kq_ => X4.caload hx (j := (1 : Int32)) (v := (.int c1)) (by rw [e4]; exact (zAr6).1) (State.isArrayOf_alike hZ.alike (zAr6).2.1) (zAr6).2.2 (inb_of zS6 ⟨by decide, by decide⟩) (zH6 1 (by rw [zS6]; decide)) (g := (mkF m 12 #[.val (.ref a1), .val (.int (1 : Int32)), .val (.ref a2), .val (.int (1 : Int32)), .val (.int (2 : Int32)), .val (.int (1 : Int32)), .val (.int c0)] [(.int (1 : Int32)), (.ref a1)])) rfl rfl (hb hby d12_12) _ kq_) ?_
    show Gl p e below _ (T4.setTop (mkF m 13 #[.val (.ref a1), .val (.int (1 : Int32)), .val (.ref a2), .val (.int (1 : Int32)), .val (.int (2 : Int32)), .val (.int (1 : Int32)), .val (.int c0)] [(.int c1)]))
    refine Gl.of (fun _ kq_ => XS.istore X4.here hx rfl (hb hby d12_13) rfl (l' := #[.val (.ref a1), .val (.int (1 : Int32)), .val (.ref a2), .val (.int (1 : Int32)), .val (.int (2 : Int32)), .val (.int (1 : Int32)), .val (.int c1)]) rfl kq_) ?_
    show Gl p e below _ (T4.setTop (mkF m 15 #[.val (.ref a1), .val (.int (1 : Int32)), .val (.ref a2), .val (.int (1 : Int32)), .val (.int (2 : Int32)), .val (.int (1 : Int32)), .val (.int c1)] []))
    refine Gl.of (fun _ kq_ => XS.iload X4.here hx rfl (hb hby d12_15) rfl kq_) ?_
    show Gl p e below _ (T4.setTop (mkF m 17 #[.val (.ref a1), .val (.int (1 : Int32)), .val (.ref a2), .val (.int (1 : Int32)), .val (.int (2 : Int32)), .val (.int (1 : Int32)), .val (.int c1)] [(.int c1)]))
    refine Gl.of (fun _ kq_ => XS.sipush X4.here hx rfl (hb hby d12_17) kq_) ?_
    show Gl p e below _ (T4.setTop (mkF m 20 #[.val (.ref a1), .val (.int (1 : Int32)), .val (.ref a2), .val (.int (1 : Int32)), .val (.int (2 : Int32)), .val (.int (1 : Int32)), .val (.int c1)] [(.int (255 : Int32)), (.int c1)]))
    by_cases hc20_7 : (255 : Int32) < c1
    · refine Gl.of (fun _ kq_ => XS.icmpNo X4.here hx rfl (hb hby d12_20) rfl (tlt hc20_7).2.2.2 kq_) ?_
      show Gl p e below _ (T4.setTop (mkF m 23 #[.val (.ref a1), .val (.int (1 : Int32)), .val (.ref a2), .val (.int (1 : Int32)), .val (.int (2 : Int32)), .val (.int (1 : Int32)), .val (.int c1)] []))
      refine Gl.of (fun _ kq_ => XS.iload X4.here hx rfl (hb hby d12_23) rfl kq_) ?_
      show Gl p e below _ (T4.setTop (mkF m 25 #[.val (.ref a1), .val (.int (1 : Int32)), .val (.ref a2), .val (.int (1 : Int32)), .val (.int (2 : Int32)), .val (.int (1 : Int32)), .val (.int c1)] [(.int (1 : Int32))]))
      exact Gl.retI X4 hx hlk hret (hb hby d12_25) e4 (⟨_, _, rfl, N4, K4, V4, Or.inr (Or.inr (⟨rfl, hc20_7⟩))⟩) (by decide) (by decide)
    · refine Gl.of (fun _ kq_ => XS.icmpYes X4.here hx rfl (pc0 := 20) (pc' := 26) rfl (hb hby d12_20) rfl (flt hc20_7).2.2.2 (by decide) (by decide) kq_) ?_
      show Gl p e below _ (T4.setTop (mkF m 26 #[.val (.ref a1), .val (.int (1 : Int32)), .val (.ref a2), .val (.int (1 : Int32)), .val (.int (2 : Int32)), .val (.int (1 : Int32)), .val (.int c1)] []))
      refine Gl.of (fun _ kq_ => XS.aloadN X4.here hx rfl (hb hby d12_26) rfl rfl kq_) ?_
      show Gl p e below _ (T4.setTop (mkF m 27 #[.val (.ref a1), .val (.int (1 : Int32)), .val (.ref a2), .val (.int (1 : Int32)), .val (.int (2 : Int32)), .val (.int (1 : Int32)), .val (.int c1)] [(.ref a2)]))
      refine Gl.of (fun _ kq_ => XS.iloadN X4.here hx rfl (hb hby d12_27) rfl kq_) ?_
      show Gl p e below _ (T4.setTop (mkF m 28 #[.val (.ref a1), .val (.int (1 : Int32)), .val (.ref a2), .val (.int (1 : Int32)), .val (.int (2 : Int32)), .val (.int (1 : Int32)), .val (.int c1)] [(.int (1 : Int32)), (.ref a2)]))
      refine Gl.of (fun _ kq_ => XS.iload X4.here hx rfl (hb hby d12_28) rfl kq_) ?_
      show Gl p e below _ (T4.setTop (mkF m 30 #[.val (.ref a1), .val (.int (1 : Int32)), .val (.ref a2), .val (.int (1 : Int32)), .val (.int (2 : Int32)), .val (.int (1 : Int32)), .val (.int c1)] [(.int c1), (.int (1 : Int32)), (.ref a2)]))
      refine Gl.of (fun _ kq_ => XS.i2b X4.here hx rfl (hb hby d12_30) rfl kq_) ?_
      show Gl p e below _ (T4.setTop (mkF m 31 #[.val (.ref a1), .val (.int (1 : Int32)), .val (.ref a2), .val (.int (1 : Int32)), .val (.int (2 : Int32)), .val (.int (1 : Int32)), .val (.int c1)] [(.int (c1.toInt8.toInt32)), (.int (1 : Int32)), (.ref a2)]))
      obtain ⟨zcl8, zAr8, zq8, zS8, zM8, zH8, zG8⟩ := id V4
      obtain ⟨T9, h9, X9, e9, W9, st9⟩ := stB X4 hx hZ e4 zAr8 (j := (1 : Int32)) (inb_of zS8 ⟨by decide, by decide⟩) (g := (mkF m 31 #[.val (.ref a1), .val (.int (1 : Int32)), .val (.ref a2), .val (.int (1 : Int32)), .val (.int (2 : Int32)), .val (.int (1 : Int32)), .val (.int c1)] [(.int (c1.toInt8.toInt32)), (.int (1 : Int32)), (.ref a2)])) rfl rfl (hb hby d12_31)
      refine Gl.of st9 ?_
      have V9 : Arv Z h9 a2 kk2 .byte (2 : Int32) [(.int (nar .byte (c0.toInt8.toInt32))), (.int (nar .byte (c1.toInt8.toInt32)))] (.int 0) := Arv.set zAr8 zq8 zS8 zM8 zH8 zG8 (fits_nar_byte _) W9 1 rfl (Nat.le_of_ble_eq_true rfl)
      have vc10 := vc5.other W9 hne
      have N9 := Fr.snoc X9 N4 Ga2
      have O9 := O4.wr W9 Ga2
      have K9 := K4.wr W9 (Or.inl (List.mem_of_getElem? (i := 0) rfl))
      show Gl p e below _ (T9.setTop (mkF m 32 #[.val (.ref a1), .val (.int (1 : Int32)), .val (.ref a2), .val (.int (1 : Int32)), .val (.int (2 : Int32)), .val (.int (1 : Int32)), .val (.int c1)] []))
      refine Gl.of (fun _ kq_ => XS.iinc X9.here hx rfl (hb hby d12_32) rfl (l' := #[.val (.ref a1), .val (.int (2 : Int32)), .val (.ref a2), .val (.int (1 : Int32)), .val (.int (2 : Int32)), .val (.int (1 : Int32)), .val (.int c1)]) rfl kq_) ?_
      show Gl p e below _ (T9.setTop (mkF m 35 #[.val (.ref a1), .val (.int (2 : Int32)), .val (.ref a2), .val (.int (1 : Int32)), .val (.int (2 : Int32)), .val (.int (1 : Int32)), .val (.int c1)] []))
      refine Gl.of (fun _ kq_ => XS.iinc X9.here hx rfl (hb hby d12_35) rfl (l' := #[.val (.ref a1), .val (.int (2 : Int32)), .val (.ref a2), .val (.int (2 : Int32)), .val (.int (2 : Int32)), .val (.int (1 : Int32)), .val (.int c1)]) rfl kq_) ?_
      show Gl p e below _ (T9.setTop (mkF m 38 #[.val (.ref a1), .val (.int (2 : Int32)), .val (.ref a2), .val (.int (2 : Int32)), .val (.int (2 : Int32)), .val (.int (1 : Int32)), .val (.int c1)] []))
      refine Gl.of (fun _ kq_ => XS.iinc X9.here hx rfl (hb hby d12_38) rfl (l' := #[.val (.ref a1), .val (.int (2 : Int32)), .val (.ref a2), .val (.int (2 : Int32)), .val (.int (2 : Int32)), .val (.int (2 : Int32)), .val (.int c1)]) rfl kq_) ?_
      show Gl p e below _ (T9.setTop (mkF m 41 #[.val (.ref a1), .val (.int (2 : Int32)), .val (.ref a2), .val (.int (2 : Int32)), .val (.int (2 : Int32)), .val (.int (2 : Int32)), .val (.int c1)] []))
      refine Gl.of (fun _ kq_ => XS.goto X9.here hx rfl (pc0 := 41) (pc' := 3) rfl (hb hby d12_41) (by decide) (by decide) kq_) ?_
      show Gl p e below _ (T9.setTop (mkF m 3 #[.val (.ref a1), .val (.int (2 : Int32)), .val (.ref a2), .val (.int (2 : Int32)), .val (.int (2 : Int32)), .val (.int (2 : Int32)), .val (.int c1)] []))
      refine Gl.of (fun _ kq_ => XS.iload X9.here hx rfl (hb hby d12_3) rfl kq_) ?_
      show Gl p e below _ (T9.setTop (mkF m 5 #[.val (.ref a1), .val (.int (2 : Int32)), .val (.ref a2), .val (.int (2 : Int32)), .val (.int (2 : Int32)), .val (.int (2 : Int32)), .val (.int c1)] [(.int (2 : Int32))]))
      refine Gl.of (fun _ kq_ => XS.iload X9.here hx rfl (hb hby d12_5) rfl kq_) ?_
      show Gl p e below _ (T9.setTop (mkF m 7 #[.val (.ref a1), .val (.int (2 : Int32)), .val (.ref a2), .val (.int (2 : Int32)), .val (.int (2 : Int32)), .val (.int (2 : Int32)), .val (.int c1)] [(.int (2 : Int32)), (.int (2 : Int32))]))
      refine Gl.of (fun _ kq_ => XS.icmpYes X9.here hx rfl (pc0 := 7) (pc' := 44) rfl (hb hby d12_7) rfl (flt (by decide : ¬ ((2 : Int32) < (2 : Int32)))).2.1 (by decide) (by decide) kq_) ?_
      show Gl p e below _ (T9.setTop (mkF m 44 #[.val (.ref a1), .val (.int (2 : Int32)), .val (.ref a2), .val (.int (2 : Int32)), .val (.int (2 : Int32)), .val (.int (2 : Int32)), .val (.int c1)] []))
      refine Gl.of (fun _ kq_ => XS.iload X9.here hx rfl (hb hby d12_44) rfl kq_) ?_
      show Gl p e below _ (T9.setTop (mkF m 46 #[.val (.ref a1), .val (.int (2 : Int32)), .val (.ref a2), .val (.int (2 : Int32)), .val (.int (2 : Int32)), .val (.int (2 : Int32)), .val (.int c1)] [(.int (2 : Int32))]))
      exact Gl.retI X9 hx hlk hret (hb hby d12_46) e9 (⟨_, _, rfl, N9, K9, V9, Or.inl rfl⟩) (by decide) (by decide)
theorem ef_13 (m : MethodId) (x0 : Addr) (x1 : Int32) (x2 : Int32) : entryFrame m #[(.ref x0), (.int x1), (.int x2)] 6 = mkF m 0 #[.val (.ref x0), .val (.int x1), .val (.int x2), .unset, .unset, .unset] [] := by first | (simp [entryFrame, mkF, argsToLocals, Value.category, maxLocals]; done) | rfl
theorem d11_0 : decode jdk_52_method_16_code 0 = .ok (.iload_n 2, 1) := by decide +kernel
theorem d11_1 : decode jdk_52_method_16_code 1 = .ok (.newarray .byte, 2) := by decide +kernel
theorem d11_3 : decode jdk_52_method_16_code 3 = .ok (.astore_n 3, 1) := by decide +kernel
theorem d11_4 : decode jdk_52_method_16_code 4 = .ok (.aload_n 0, 1) := by decide +kernel
theorem d11_5 : decode jdk_52_method_16_code 5 = .ok (.iload_n 1, 1) := by decide +kernel
theorem d11_6 : decode jdk_52_method_16_code 6 = .ok (.aload_n 3, 1) := by decide +kernel
theorem d11_7 : decode jdk_52_method_16_code 7 = .ok (.iconst 0, 1) := by decide +kernel
theorem d11_8 : decode jdk_52_method_16_code 8 = .ok (.iload_n 2, 1) := by decide +kernel
theorem d11_9 : decode jdk_52_method_16_code 9 = .ok (.invokestatic 115, 3) := by decide +kernel
theorem pd_3 : parseMethodDescriptor "([CI[BII)I" = some ⟨[(.array .char), .int, (.array .byte), .int, .int], some .int⟩ := by decide +kernel
theorem w80 {Z : State} {a0 : Array Value} (hw : ∀ d ∈ tables_1, d.before a0 Z = true) : (Jvm.Cond.methodLink "java/lang/StringUTF16" (115 : Nat) ({ cls := "java/lang/StringUTF16", name := "compress", desc := "([CI[BII)I" } : Jvm.MethodName)).before a0 Z = true := hw _ (List.mem_of_getElem? (i := 80) rfl)
theorem w81 {Z : State} {a0 : Array Value} (hw : ∀ d ∈ tables_1, d.before a0 Z = true) : (Jvm.Cond.static ({ cls := "java/lang/StringUTF16", name := "compress", desc := "([CI[BII)I" } : Jvm.MethodName)).before a0 Z = true := hw _ (List.mem_of_getElem? (i := 81) rfl)
theorem w82 {Z : State} {a0 : Array Value} (hw : ∀ d ∈ tables_1, d.before a0 Z = true) : (Jvm.Cond.code ({ cls := "java/lang/StringUTF16", name := "compress", desc := "([CI[BII)I" } : Jvm.MethodName) jdk_52_method_21_code (7 : Nat) (Option.some Jvm.ClassFile.FieldType.int)).before a0 Z = true := hw _ (List.mem_of_getElem? (i := 82) rfl)
theorem d11_12 : decode jdk_52_method_16_code 12 = .ok (.istore 4, 2) := by decide +kernel
theorem d11_14 : decode jdk_52_method_16_code 14 = .ok (.iload 4, 2) := by decide +kernel
theorem d11_16 : decode jdk_52_method_16_code 16 = .ok (.iload_n 2, 1) := by decide +kernel
theorem d11_17 : decode jdk_52_method_16_code 17 = .ok (.if_icmp .eq 40, 3) := by decide +kernel
theorem d11_57 : decode jdk_52_method_16_code 57 = .ok (.aload_n 3, 1) := by decide +kernel
theorem d11_58 : decode jdk_52_method_16_code 58 = .ok (.areturn, 1) := by decide +kernel
theorem d11_20 : decode jdk_52_method_16_code 20 = .ok (.aload_n 0, 1) := by decide +kernel
theorem d11_21 : decode jdk_52_method_16_code 21 = .ok (.iload_n 1, 1) := by decide +kernel
theorem d11_22 : decode jdk_52_method_16_code 22 = .ok (.iload_n 2, 1) := by decide +kernel
theorem d11_23 : decode jdk_52_method_16_code 23 = .ok (.invokestatic 119, 3) := by decide +kernel
theorem pd_4 : parseMethodDescriptor "([CII)[B" = some ⟨[(.array .char), .int, .int], some (.array .byte)⟩ := by decide +kernel
theorem w83 {Z : State} {a0 : Array Value} (hw : ∀ d ∈ tables_1, d.before a0 Z = true) : (Jvm.Cond.methodLink "java/lang/StringUTF16" (119 : Nat) ({ cls := "java/lang/StringUTF16", name := "toBytes", desc := "([CII)[B" } : Jvm.MethodName)).before a0 Z = true := hw _ (List.mem_of_getElem? (i := 83) rfl)
theorem w84 {Z : State} {a0 : Array Value} (hw : ∀ d ∈ tables_1, d.before a0 Z = true) : (Jvm.Cond.static ({ cls := "java/lang/StringUTF16", name := "toBytes", desc := "([CII)[B" } : Jvm.MethodName)).before a0 Z = true := hw _ (List.mem_of_getElem? (i := 84) rfl)
theorem w85 {Z : State} {a0 : Array Value} (hw : ∀ d ∈ tables_1, d.before a0 Z = true) : (Jvm.Cond.code ({ cls := "java/lang/StringUTF16", name := "toBytes", desc := "([CII)[B" } : Jvm.MethodName) jdk_52_method_14_code (5 : Nat) (Option.some (Jvm.ClassFile.FieldType.array Jvm.ClassFile.FieldType.byte))).before a0 Z = true := hw _ (List.mem_of_getElem? (i := 85) rfl)
theorem d11_26 : decode jdk_52_method_16_code 26 = .ok (.astore 5, 2) := by decide +kernel
theorem d11_28 : decode jdk_52_method_16_code 28 = .ok (.aload 5, 2) := by decide +kernel
theorem d11_30 : decode jdk_52_method_16_code 30 = .ok (.iload 4, 2) := by decide +kernel
theorem d11_32 : decode jdk_52_method_16_code 32 = .ok (.invokestatic 71, 3) := by decide +kernel
theorem pd_5 : parseMethodDescriptor "([BI)C" = some ⟨[(.array .byte), .int], some .char⟩ := by decide +kernel
theorem w99 {Z : State} {a0 : Array Value} (hw : ∀ d ∈ tables_1, d.before a0 Z = true) : (Jvm.Cond.methodLink "java/lang/StringUTF16" (71 : Nat) ({ cls := "java/lang/StringUTF16", name := "getChar", desc := "([BI)C" } : Jvm.MethodName)).before a0 Z = true := hw _ (List.mem_of_getElem? (i := 99) rfl)
theorem w100 {Z : State} {a0 : Array Value} (hw : ∀ d ∈ tables_1, d.before a0 Z = true) : (Jvm.Cond.static ({ cls := "java/lang/StringUTF16", name := "getChar", desc := "([BI)C" } : Jvm.MethodName)).before a0 Z = true := hw _ (List.mem_of_getElem? (i := 100) rfl)
theorem w101 {Z : State} {a0 : Array Value} (hw : ∀ d ∈ tables_1, d.before a0 Z = true) : (Jvm.Cond.code ({ cls := "java/lang/StringUTF16", name := "getChar", desc := "([BI)C" } : Jvm.MethodName) jdk_52_method_5_code (2 : Nat) (Option.some Jvm.ClassFile.FieldType.char)).before a0 Z = true := hw _ (List.mem_of_getElem? (i := 101) rfl)
theorem d11_35 : decode jdk_52_method_16_code 35 = .ok (.sipush 255, 3) := by decide +kernel
theorem d11_38 : decode jdk_52_method_16_code 38 = .ok (.if_icmp .gt 16, 3) := by decide +kernel
theorem d11_54 : decode jdk_52_method_16_code 54 = .ok (.aload 5, 2) := by decide +kernel
theorem d11_56 : decode jdk_52_method_16_code 56 = .ok (.areturn, 1) := by decide +kernel
set_option maxRecDepth 65536 in
set_option maxHeartbeats 40000000 in
theorem rmC2 (l : Launch) (Z : State) (a0 : Array Value) (hw : ∀ d ∈ tables_1, d.before a0 Z = true) (h0 : Heap) (a1 : Addr) (kk1 : ClassId) (c0 c1 : Int32) (n0 : Nat) (V1 : Arv Z h0 a1 kk1 .char (2 : Int32) [.int c0, .int c1] (.int 0)) (hr0 : own_rg c0) (hr1 : own_rg c1) (Sa : Sta Z Z.heap "java/lang/StringUTF16" "$assertionsDisabled" "Z" (.int 1)) (Sh : Sta Z Z.heap "java/lang/StringUTF16" "HI_BYTE_SHIFT" "I" (.int 0)) (Sl : Sta Z Z.heap "java/lang/StringUTF16" "LO_BYTE_SHIFT" "I" (.int 8)) (O0 : Old Z n0 h0) : Con l Z (⟨"java/lang/StringUTF16", "compress", "([CII)[B"⟩ : MethodName) jdk_52_method_16_code 6 (some (.array .byte)) [] ({ frames := 3, cells := 2, slots := 6, locals := 45 } : Room) 2 6 #[(.ref a1), (.int (0 : Int32)), (.int (2 : Int32))] h0 (fun v h L => ∃ r k z vs, v = some (.ref r) ∧ Arv Z h r k .byte z vs (.int 0) ∧ ¬ z = 0 ∧ Keep h0 h [] ∧ Fr n0 L ∧ n0 ≤ r ∧ h0.size ≤ r) := by
  refine Con.intro (plainFor_of_name pn_0) ?_
  intro p e s m below meth c s₁ X0 hx hby hml hZ hown hnm hret hlk e0 hs0
  refine Gl.of (fun _ kq_ => castTop (ef_13 m a1 (0 : Int32) (2 : Int32)) kq_) ?_
  have K0 := Keep.refl h0 []
  show Gl p e below _ (s₁.setTop (mkF m 0 #[.val (.ref a1), .val (.int (0 : Int32)), .val (.int (2 : Int32)), .unset, .unset, .unset] []))
  refine Gl.of (fun _ kq_ => XS.iloadN X0.here hx rfl (hb hby d11_0) rfl kq_) ?_
  show Gl p e below _ (s₁.setTop (mkF m 1 #[.val (.ref a1), .val (.int (0 : Int32)), .val (.int (2 : Int32)), .unset, .unset, .unset] [(.int (2 : Int32))]))
  obtain ⟨T1, h1, k1, X1, e1, E1, A1, st1⟩ := newP (aty := .byte) X0 hx hZ (w20 hw) e0 (g := (mkF m 1 #[.val (.ref a1), .val (.int (0 : Int32)), .val (.int (2 : Int32)), .unset, .unset, .unset] [(.int (2 : Int32))])) rfl (hb hby d11_1) rfl (by decide) (cap := 2) (by decide) (by decide) (by decide) (by decide)
  obtain ⟨b1, g1⟩ : ∃ z, z = h0.size := ⟨_, rfl⟩
  rw [← g1] at A1 st1
  refine Gl.of st1 ?_
  have Gb1 : n0 ≤ b1 := Nat.le_trans (O0.1 ▸ O0.2.1) (Nat.le_of_eq g1.symm)
  have Jb1 : h0.size ≤ b1 := Nat.le_trans K0.1 (Nat.le_of_eq g1.symm)
  have ne_a1_b1 : a1 ≠ b1 := Nat.ne_of_lt (Nat.lt_of_lt_of_le V1.lt (Nat.le_of_eq g1.symm))
  have vc2 := V1.ext E1
  have O1 := O0.ext E1
  have K1 := K0.ext E1
  have V1 : Arv Z h1 b1 k1 .byte (2 : Int32) [(.int (0 : Int32)), (.int (0 : Int32))] (.int (0 : Int32)) := (Arv.new A1 (by decide)).pad (pad_rep [] (.int (0 : Int32)) 2)
  show Gl p e below _ (T1.setTop (mkF m 3 #[.val (.ref a1), .val (.int (0 : Int32)), .val (.int (2 : Int32)), .unset, .unset, .unset] [(.ref b1)]))
  refine Gl.of (fun _ kq_ => XS.astoreN X1.here hx rfl (hb hby d11_3) rfl rfl (l' := #[.val (.ref a1), .val (.int (0 : Int32)), .val (.int (2 : Int32)), .val (.ref b1), .unset, .unset]) rfl kq_) ?_
  show Gl p e below _ (T1.setTop (mkF m 4 #[.val (.ref a1), .val (.int (0 : Int32)), .val (.int (2 : Int32)), .val (.ref b1), .unset, .unset] []))
  refine Gl.of (fun _ kq_ => XS.aloadN X1.here hx rfl (hb hby d11_4) rfl rfl kq_) ?_
  show Gl p e below _ (T1.setTop (mkF m 5 #[.val (.ref a1), .val (.int (0 : Int32)), .val (.int (2 : Int32)), .val (.ref b1), .unset, .unset] [(.ref a1)]))
  refine Gl.of (fun _ kq_ => XS.iloadN X1.here hx rfl (hb hby d11_5) rfl kq_) ?_
  show Gl p e below _ (T1.setTop (mkF m 6 #[.val (.ref a1), .val (.int (0 : Int32)), .val (.int (2 : Int32)), .val (.ref b1), .unset, .unset] [(.int (0 : Int32)), (.ref a1)]))
  refine Gl.of (fun _ kq_ => XS.aloadN X1.here hx rfl (hb hby d11_6) rfl rfl kq_) ?_
  show Gl p e below _ (T1.setTop (mkF m 7 #[.val (.ref a1), .val (.int (0 : Int32)), .val (.int (2 : Int32)), .val (.ref b1), .unset, .unset] [(.ref b1), (.int (0 : Int32)), (.ref a1)]))
  refine Gl.of (fun _ kq_ => XS.iconst X1.here hx rfl (hb hby d11_7) kq_) ?_
  show Gl p e below _ (T1.setTop (mkF m 8 #[.val (.ref a1), .val (.int (0 : Int32)), .val (.int (2 : Int32)), .val (.ref b1), .unset, .unset] [(.int (0 : Int32)), (.ref b1), (.int (0 : Int32)), (.ref a1)]))
  refine Gl.of (fun _ kq_ => XS.iloadN X1.here hx rfl (hb hby d11_8) rfl kq_) ?_
  show Gl p e below _ (T1.setTop (mkF m 9 #[.val (.ref a1), .val (.int (0 : Int32)), .val (.int (2 : Int32)), .val (.ref b1), .unset, .unset] [(.int (2 : Int32)), (.int (0 : Int32)), (.ref b1), (.int (0 : Int32)), (.ref a1)]))
  refine Gl.callS X1 hx hZ (y := (⟨"java/lang/StringUTF16", "compress", "([CI[BII)I"⟩ : MethodName)) hown (w80 hw) (w81 hw) (w78 hw) (w82 hw) (desc_ne (by decide)) (rm := { frames := 0, cells := 0, slots := 0, locals := 0 }) (argsL := [(.ref a1), (.int (0 : Int32)), (.ref b1), (.int (0 : Int32)), (.int (2 : Int32))]) (rest := []) (rmK2 l Z a0 hw _ a1 b1 kk1 k1 c0 c1 n0 vc2 V1 ne_a1_b1 Gb1 O1) 0 (by decide) (by decide) (by decide) (by decide) e1 (pc := 9) (Ls := #[.val (.ref a1), .val (.int (0 : Int32)), .val (.int (2 : Int32)), .val (.ref b1), .unset, .unset]) (st := [(.int (2 : Int32)), (.int (0 : Int32)), (.ref b1), (.int (0 : Int32)), (.ref a1)]) (by rw [hml]; rfl) pd_3 rfl rfl (Nat.le_of_eq rfl) (hb hby d11_9) ?_
  intro v3 T3 L3 X3 hQ3
  obtain ⟨z3, vs3, rfl, Nq3, Kq3, Vq3, dj3⟩ := hQ3
  have N3 := Fr.app (Fr.nil n0) Nq3
  have vc4 := vc2.keep Kq3 (fun q => ne_a1_b1 (List.mem_singleton.mp q))
  have O3 := O1.keep Kq3 (allS Gb1 all0)
  have K3 := K1.trans Kq3 (by intro x hx'; cases List.mem_singleton.mp hx'; exact Or.inr Jb1)
  rcases dj3 with rfl | ⟨rfl, hb3⟩ | ⟨rfl, hb3⟩
  · show Gl p e below _ (T3.setTop (mkF m 12 #[.val (.ref a1), .val (.int (0 : Int32)), .val (.int (2 : Int32)), .val (.ref b1), .unset, .unset] [(.int (2 : Int32))]))
    refine Gl.of (fun _ kq_ => XS.istore X3.here hx rfl (hb hby d11_12) rfl (l' := #[.val (.ref a1), .val (.int (0 : Int32)), .val (.int (2 : Int32)), .val (.ref b1), .val (.int (2 : Int32)), .unset]) rfl kq_) ?_
    show Gl p e below _ (T3.setTop (mkF m 14 #[.val (.ref a1), .val (.int (0 : Int32)), .val (.int (2 : Int32)), .val (.ref b1), .val (.int (2 : Int32)), .unset] []))
    refine Gl.of (fun _ kq_ => XS.iload X3.here hx rfl (hb hby d11_14) rfl kq_) ?_
    show Gl p e below _ (T3.setTop (mkF m 16 #[.val (.ref a1), .val (.int (0 : Int32)), .val (.int (2 : Int32)), .val (.ref b1), .val (.int (2 : Int32)), .unset] [(.int (2 : Int32))]))
    refine Gl.of (fun _ kq_ => XS.iloadN X3.here hx rfl (hb hby d11_16) rfl kq_) ?_
    show Gl p e below _ (T3.setTop (mkF m 17 #[.val (.ref a1), .val (.int (0 : Int32)), .val (.int (2 : Int32)), .val (.ref b1), .val (.int (2 : Int32)), .unset] [(.int (2 : Int32)), (.int (2 : Int32))]))
    refine Gl.of (fun _ kq_ => XS.icmpYes X3.here hx rfl (pc0 := 17) (pc' := 57) rfl (hb hby d11_17) rfl (teq (by decide : (2 : Int32) = (2 : Int32))).1 (by decide) (by decide) kq_) ?_
    show Gl p e below _ (T3.setTop (mkF m 57 #[.val (.ref a1), .val (.int (0 : Int32)), .val (.int (2 : Int32)), .val (.ref b1), .val (.int (2 : Int32)), .unset] []))
    refine Gl.of (fun _ kq_ => XS.aloadN X3.here hx rfl (hb hby d11_57) rfl rfl kq_) ?_
    show Gl p e below _ (T3.setTop (mkF m 58 #[.val (.ref a1), .val (.int (0 : Int32)), .val (.int (2 : Int32)), .val (.ref b1), .val (.int (2 : Int32)), .unset] [(.ref b1)]))
    exact Gl.retR X3 hx hlk hret rfl rfl (hb hby d11_58) rfl (⟨_, _, _, _, rfl, Vq3, (by decide), K3, N3, Gb1, Jb1⟩) (by decide) (by decide)
  · show Gl p e below _ (T3.setTop (mkF m 12 #[.val (.ref a1), .val (.int (0 : Int32)), .val (.int (2 : Int32)), .val (.ref b1), .unset, .unset] [(.int (0 : Int32))]))
    refine Gl.of (fun _ kq_ => XS.istore X3.here hx rfl (hb hby d11_12) rfl (l' := #[.val (.ref a1), .val (.int (0 : Int32)), .val (.int (2 : Int32)), .val (.ref b1), .val (.int (0 : Int32)), .unset]) rfl kq_) ?_
    show Gl p e below _ (T3.setTop (mkF m 14 #[.val (.ref a1), .val (.int (0 : Int32)), .val (.int (2 : Int32)), .val (.ref b1), .val (.int (0 : Int32)), .unset] []))
    refine Gl.of (fun _ kq_ => XS.iload X3.here hx rfl (hb hby d11_14) rfl kq_) ?_
    show Gl p e below _ (T3.setTop (mkF m 16 #[.val (.ref a1), .val (.int (0 : Int32)), .val (.int (2 : Int32)), .val (.ref b1), .val (.int (0 : Int32)), .unset] [(.int (0 : Int32))]))
    refine Gl.of (fun _ kq_ => XS.iloadN X3.here hx rfl (hb hby d11_16) rfl kq_) ?_
    show Gl p e below _ (T3.setTop (mkF m 17 #[.val (.ref a1), .val (.int (0 : Int32)), .val (.int (2 : Int32)), .val (.ref b1), .val (.int (0 : Int32)), .unset] [(.int (2 : Int32)), (.int (0 : Int32))]))
    refine Gl.of (fun _ kq_ => XS.icmpNo X3.here hx rfl (hb hby d11_17) rfl (feq (by decide : ¬ ((0 : Int32) = (2 : Int32)))).1 kq_) ?_
    show Gl p e below _ (T3.setTop (mkF m 20 #[.val (.ref a1), .val (.int (0 : Int32)), .val (.int (2 : Int32)), .val (.ref b1), .val (.int (0 : Int32)), .unset] []))
    refine Gl.of (fun _ kq_ => XS.aloadN X3.here hx rfl (hb hby d11_20) rfl rfl kq_) ?_
    show Gl p e below _ (T3.setTop (mkF m 21 #[.val (.ref a1), .val (.int (0 : Int32)), .val (.int (2 : Int32)), .val (.ref b1), .val (.int (0 : Int32)), .unset] [(.ref a1)]))
    refine Gl.of (fun _ kq_ => XS.iloadN X3.here hx rfl (hb hby d11_21) rfl kq_) ?_
    show Gl p e below _ (T3.setTop (mkF m 22 #[.val (.ref a1), .val (.int (0 : Int32)), .val (.int (2 : Int32)), .val (.ref b1), .val (.int (0 : Int32)), .unset] [(.int (0 : Int32)), (.ref a1)]))
    refine Gl.of (fun _ kq_ => XS.iloadN X3.here hx rfl (hb hby d11_22) rfl kq_) ?_
    show Gl p e below _ (T3.setTop (mkF m 23 #[.val (.ref a1), .val (.int (0 : Int32)), .val (.int (2 : Int32)), .val (.ref b1), .val (.int (0 : Int32)), .unset] [(.int (2 : Int32)), (.int (0 : Int32)), (.ref a1)]))
    refine Gl.callS X3 hx hZ (y := (⟨"java/lang/StringUTF16", "toBytes", "([CII)[B"⟩ : MethodName)) hown (w83 hw) (w84 hw) (w78 hw) (w85 hw) (desc_ne (by decide)) (rm := { frames := 2, cells := 1, slots := 4, locals := 26 }) (argsL := [(.ref a1), (.int (0 : Int32)), (.int (2 : Int32))]) (rest := []) (rmB2 l Z a0 hw _ a1 kk1 c0 c1 n0 vc4 Sa Sh Sl O3) 0 (by decide) (by decide) (by decide) (by decide) rfl (pc := 23) (Ls := #[.val (.ref a1), .val (.int (0 : Int32)), .val (.int (2 : Int32)), .val (.ref b1), .val (.int (0 : Int32)), .unset]) (st := [(.int (2 : Int32)), (.int (0 : Int32)), (.ref a1)]) (by rw [hml]; rfl) pd_4 rfl rfl (Nat.le_of_eq rfl) (hb hby d11_23) ?_
    intro v5 T5 L5 X5 hQ5
    obtain ⟨r5, k5, rfl, Vq5, Kq5, Nq5, Gr5, H5⟩ := hQ5
    have N5 := Fr.app N3 Nq5
    have ne_a1_r5 : a1 ≠ r5 := Nat.ne_of_lt (Nat.lt_of_lt_of_le vc4.lt H5)
    have ne_b1_r5 : b1 ≠ r5 := Nat.ne_of_lt (Nat.lt_of_lt_of_le Vq3.lt H5)
    have Jr5 : h0.size ≤ r5 := Nat.le_trans K3.1 H5
    have vc6 := vc4.keep Kq5 (by simp)
    have vc7 := Vq3.keep Kq5 (by simp)
    have O5 := O3.keep Kq5 all0
    have K5 := K3.trans Kq5 (by intro x hx'; exact nomatch hx')
    show Gl p e below _ (T5.setTop (mkF m 26 #[.val (.ref a1), .val (.int (0 : Int32)), .val (.int (2 : Int32)), .val (.ref b1), .val (.int (0 : Int32)), .unset] [(.ref r5)]))
    refine Gl.of (fun _ kq_ => XS.astore X5.here hx rfl (hb hby d11_26) rfl rfl (l' := #[.val (.ref a1), .val (.int (0 : Int32)), .val (.int (2 : Int32)), .val (.ref b1), .val (.int (0 : Int32)), .val (.ref r5)]) rfl kq_) ?_
    show Gl p e below _ (T5.setTop (mkF m 28 #[.val (.ref a1), .val (.int (0 : Int32)), .val (.int (2 : Int32)), .val (.ref b1), .val (.int (0 : Int32)), .val (.ref r5)] []))
    refine Gl.of (fun _ kq_ => XS.aload X5.here hx rfl (hb hby d11_28) rfl rfl kq_) ?_
    show Gl p e below _ (T5.setTop (mkF m 30 #[.val (.ref a1), .val (.int (0 : Int32)), .val (.int (2 : Int32)), .val (.ref b1), .val (.int (0 : Int32)), .val (.ref r5)] [(.ref r5)]))
    refine Gl.of (fun _ kq_ => XS.iload X5.here hx rfl (hb hby d11_30) rfl kq_) ?_
    show Gl p e below _ (T5.setTop (mkF m 32 #[.val (.ref a1), .val (.int (0 : Int32)), .val (.int (2 : Int32)), .val (.ref b1), .val (.int (0 : Int32)), .val (.ref r5)] [(.int (0 : Int32)), (.ref r5)]))
    refine Gl.callS0 X5 hx hZ (y := (⟨"java/lang/StringUTF16", "getChar", "([BI)C"⟩ : MethodName)) hown (w99 hw) (w100 hw) (w78 hw) (w101 hw) (desc_ne (by decide)) (argsL := [(.ref r5), (.int (0 : Int32))]) (rest := []) (rmG20 l Z a0 hw _ r5 k5 (own_hi c0) (own_lo c0) (own_hi c1) (own_lo c1) n0 Vq5 Sa Sh Sl O5) 0 (by decide) (by decide) rfl (pc := 32) (Ls := #[.val (.ref a1), .val (.int (0 : Int32)), .val (.int (2 : Int32)), .val (.ref b1), .val (.int (0 : Int32)), .val (.ref r5)]) (st := [(.int (0 : Int32)), (.ref r5)]) (by rw [hml]; rfl) pd_5 rfl rfl (Nat.le_of_eq rfl) (hb hby d11_32) (by decide) (by decide) ?_
    intro v8 T8 X8 e8 hv8
    subst hv8
    show Gl p e below _ (T8.setTop (mkF m 35 #[.val (.ref a1), .val (.int (0 : Int32)), .val (.int (2 : Int32)), .val (.ref b1), .val (.int (0 : Int32)), .val (.ref r5)] [(.int (own_gc (own_hi c0) (own_lo c0)))]))
    refine Gl.of (fun _ kq_ => XS.sipush X8.here hx rfl (hb hby d11_35) kq_) ?_
    show Gl p e below _ (T8.setTop (mkF m 38 #[.val (.ref a1), .val (.int (0 : Int32)), .val (.int (2 : Int32)), .val (.ref b1), .val (.int (0 : Int32)), .val (.ref r5)] [(.int (255 : Int32)), (.int (own_gc (own_hi c0) (own_lo c0)))]))
    refine Gl.of (fun _ kq_ => XS.icmpYes X8.here hx rfl (pc0 := 38) (pc' := 54) rfl (hb hby d11_38) rfl (tlt (by rw [own_gch hr0]; exact hb3 : (255 : Int32) < (own_gc (own_hi c0) (own_lo c0)))).2.2.1 (by decide) (by decide) kq_) ?_
    show Gl p e below _ (T8.setTop (mkF m 54 #[.val (.ref a1), .val (.int (0 : Int32)), .val (.int (2 : Int32)), .val (.ref b1), .val (.int (0 : Int32)), .val (.ref r5)] []))
    refine Gl.of (fun _ kq_ => XS.aload X8.here hx rfl (hb hby d11_54) rfl rfl kq_) ?_
    show Gl p e below _ (T8.setTop (mkF m 56 #[.val (.ref a1), .val (.int (0 : Int32)), .val (.int (2 : Int32)), .val (.ref b1), .val (.int (0 : Int32)), .val (.ref r5)] [(.ref r5)]))
    exact Gl.retR X8 hx hlk hret rfl rfl (hb hby d11_56) e8 (⟨_, _, _, _, rfl, Vq5, (by decide), K5, N5, Gr5, Jr5⟩) (by decide) (by decide)
  · show Gl p e below _ (T3.setTop (mkF m 12 #[.val (.ref a1), .val (.int (0 : Int32)), .val (.int (2 : Int32)), .val (.ref b1), .unset, .unset] [(.int (1 : Int32))]))
    refine Gl.of (fun _ kq_ => XS.istore X3.here hx rfl (hb hby d11_12) rfl (l' := #[.val (.ref a1), .val (.int (0 : Int32)), .val (.int (2 : Int32)), .val (.ref b1), .val (.int (1 : Int32)), .unset]) rfl kq_) ?_
    show Gl p e below _ (T3.setTop (mkF m 14 #[.val (.ref a1), .val (.int (0 : Int32)), .val (.int (2 : Int32)), .val (.ref b1), .val (.int (1 : Int32)), .unset] []))
    refine Gl.of (fun _ kq_ => XS.iload X3.here hx rfl (hb hby d11_14) rfl kq_) ?_
    show Gl p e below _ (T3.setTop (mkF m 16 #[.val (.ref a1), .val (.int (0 : Int32)), .val (.int (2 : Int32)), .val (.ref b1), .val (.int (1 : Int32)), .unset] [(.int (1 : Int32))]))
    refine Gl.of (fun _ kq_ => XS.iloadN X3.here hx rfl (hb hby d11_16) rfl kq_) ?_
    show Gl p e below _ (T3.setTop (mkF m 17 #[.val (.ref a1), .val (.int (0 : Int32)), .val (.int (2 : Int32)), .val (.ref b1), .val (.int (1 : Int32)), .unset] [(.int (2 : Int32)), (.int (1 : Int32))]))
    refine Gl.of (fun _ kq_ => XS.icmpNo X3.here hx rfl (hb hby d11_17) rfl (feq (by decide : ¬ ((1 : Int32) = (2 : Int32)))).1 kq_) ?_
    show Gl p e below _ (T3.setTop (mkF m 20 #[.val (.ref a1), .val (.int (0 : Int32)), .val (.int (2 : Int32)), .val (.ref b1), .val (.int (1 : Int32)), .unset] []))
    refine Gl.of (fun _ kq_ => XS.aloadN X3.here hx rfl (hb hby d11_20) rfl rfl kq_) ?_
    show Gl p e below _ (T3.setTop (mkF m 21 #[.val (.ref a1), .val (.int (0 : Int32)), .val (.int (2 : Int32)), .val (.ref b1), .val (.int (1 : Int32)), .unset] [(.ref a1)]))
    refine Gl.of (fun _ kq_ => XS.iloadN X3.here hx rfl (hb hby d11_21) rfl kq_) ?_
    show Gl p e below _ (T3.setTop (mkF m 22 #[.val (.ref a1), .val (.int (0 : Int32)), .val (.int (2 : Int32)), .val (.ref b1), .val (.int (1 : Int32)), .unset] [(.int (0 : Int32)), (.ref a1)]))
    refine Gl.of (fun _ kq_ => XS.iloadN X3.here hx rfl (hb hby d11_22) rfl kq_) ?_
    show Gl p e below _ (T3.setTop (mkF m 23 #[.val (.ref a1), .val (.int (0 : Int32)), .val (.int (2 : Int32)), .val (.ref b1), .val (.int (1 : Int32)), .unset] [(.int (2 : Int32)), (.int (0 : Int32)), (.ref a1)]))
    refine Gl.callS X3 hx hZ (y := (⟨"java/lang/StringUTF16", "toBytes", "([CII)[B"⟩ : MethodName)) hown (w83 hw) (w84 hw) (w78 hw) (w85 hw) (desc_ne (by decide)) (rm := { frames := 2, cells := 1, slots := 4, locals := 26 }) (argsL := [(.ref a1), (.int (0 : Int32)), (.int (2 : Int32))]) (rest := []) (rmB2 l Z a0 hw _ a1 kk1 c0 c1 n0 vc4 Sa Sh Sl O3) 0 (by decide) (by decide) (by decide) (by decide) rfl (pc := 23) (Ls := #[.val (.ref a1), .val (.int (0 : Int32)), .val (.int (2 : Int32)), .val (.ref b1), .val (.int (1 : Int32)), .unset]) (st := [(.int (2 : Int32)), (.int (0 : Int32)), (.ref a1)]) (by rw [hml]; rfl) pd_4 rfl rfl (Nat.le_of_eq rfl) (hb hby d11_23) ?_
    intro v9 T9 L9 X9 hQ9
    obtain ⟨r9, k9, rfl, Vq9, Kq9, Nq9, Gr9, H9⟩ := hQ9
    have N9 := Fr.app N3 Nq9
    have ne_a1_r9 : a1 ≠ r9 := Nat.ne_of_lt (Nat.lt_of_lt_of_le vc4.lt H9)
    have ne_b1_r9 : b1 ≠ r9 := Nat.ne_of_lt (Nat.lt_of_lt_of_le Vq3.lt H9)
    have Jr9 : h0.size ≤ r9 := Nat.le_trans K3.1 H9
    have vc10 := vc4.keep Kq9 (by simp)
    have vc11 := Vq3.keep Kq9 (by simp)
    have O9 := O3.keep Kq9 all0
    have K9 := K3.trans Kq9 (by intro x hx'; exact nomatch hx')
    show Gl p e below _ (T9.setTop (mkF m 26 #[.val (.ref a1), .val (.int (0 : Int32)), .val (.int (2 : Int32)), .val (.ref b1), .val (.int (1 : Int32)), .unset] [(.ref r9)]))
    refine Gl.of (fun _ kq_ => XS.astore X9.here hx rfl (hb hby d11_26) rfl rfl (l' := #[.val (.ref a1), .val (.int (0 : Int32)), .val (.int (2 : Int32)), .val (.ref b1), .val (.int (1 : Int32)), .val (.ref r9)]) rfl kq_) ?_
    show Gl p e below _ (T9.setTop (mkF m 28 #[.val (.ref a1), .val (.int (0 : Int32)), .val (.int (2 : Int32)), .val (.ref b1), .val (.int (1 : Int32)), .val (.ref r9)] []))
    refine Gl.of (fun _ kq_ => XS.aload X9.here hx rfl (hb hby d11_28) rfl rfl kq_) ?_
    show Gl p e below _ (T9.setTop (mkF m 30 #[.val (.ref a1), .val (.int (0 : Int32)), .val (.int (2 : Int32)), .val (.ref b1), .val (.int (1 : Int32)), .val (.ref r9)] [(.ref r9)]))
    refine Gl.of (fun _ kq_ => XS.iload X9.here hx rfl (hb hby d11_30) rfl kq_) ?_
    show Gl p e below _ (T9.setTop (mkF m 32 #[.val (.ref a1), .val (.int (0 : Int32)), .val (.int (2 : Int32)), .val (.ref b1), .val (.int (1 : Int32)), .val (.ref r9)] [(.int (1 : Int32)), (.ref r9)]))
    refine Gl.callS0 X9 hx hZ (y := (⟨"java/lang/StringUTF16", "getChar", "([BI)C"⟩ : MethodName)) hown (w99 hw) (w100 hw) (w78 hw) (w101 hw) (desc_ne (by decide)) (argsL := [(.ref r9), (.int (1 : Int32))]) (rest := []) (rmG21 l Z a0 hw _ r9 k9 (own_hi c0) (own_lo c0) (own_hi c1) (own_lo c1) n0 Vq9 Sa Sh Sl O9) 0 (by decide) (by decide) rfl (pc := 32) (Ls := #[.val (.ref a1), .val (.int (0 : Int32)), .val (.int (2 : Int32)), .val (.ref b1), .val (.int (1 : Int32)), .val (.ref r9)]) (st := [(.int (1 : Int32)), (.ref r9)]) (by rw [hml]; rfl) pd_5 rfl rfl (Nat.le_of_eq rfl) (hb hby d11_32) (by decide) (by decide) ?_
    intro v12 T12 X12 e12 hv12
    subst hv12
    show Gl p e below _ (T12.setTop (mkF m 35 #[.val (.ref a1), .val (.int (0 : Int32)), .val (.int (2 : Int32)), .val (.ref b1), .val (.int (1 : Int32)), .val (.ref r9)] [(.int (own_gc (own_hi c1) (own_lo c1)))]))
    refine Gl.of (fun _ kq_ => XS.sipush X12.here hx rfl (hb hby d11_35) kq_) ?_
    show Gl p e below _ (T12.setTop (mkF m 38 #[.val (.ref a1), .val (.int (0 : Int32)), .val (.int (2 : Int32)), .val (.ref b1), .val (.int (1 : Int32)), .val (.ref r9)] [(.int (255 : Int32)), (.int (own_gc (own_hi c1) (own_lo c1)))]))
    refine Gl.of (fun _ kq_ => XS.icmpYes X12.here hx rfl (pc0 := 38) (pc' := 54) rfl (hb hby d11_38) rfl (tlt (by rw [own_gch hr1]; exact hb3 : (255 : Int32) < (own_gc (own_hi c1) (own_lo c1)))).2.2.1 (by decide) (by decide) kq_) ?_
    show Gl p e below _ (T12.setTop (mkF m 54 #[.val (.ref a1), .val (.int (0 : Int32)), .val (.int (2 : Int32)), .val (.ref b1), .val (.int (1 : Int32)), .val (.ref r9)] []))
    refine Gl.of (fun _ kq_ => XS.aload X12.here hx rfl (hb hby d11_54) rfl rfl kq_) ?_
    show Gl p e below _ (T12.setTop (mkF m 56 #[.val (.ref a1), .val (.int (0 : Int32)), .val (.int (2 : Int32)), .val (.ref b1), .val (.int (1 : Int32)), .val (.ref r9)] [(.ref r9)]))
    exact Gl.retR X12 hx hlk hret rfl rfl (hb hby d11_56) e12 (⟨_, _, _, _, rfl, Vq9, (by decide), K9, N9, Gr9, Jr9⟩) (by decide) (by decide)
theorem ef_14 (m : MethodId) (x0 : Addr) (x1 : Int32) : entryFrame m #[(.ref x0), (.int x1)] 2 = mkF m 0 #[.val (.ref x0), .val (.int x1)] [] := by first | (simp [entryFrame, mkF, argsToLocals, Value.category, maxLocals]; done) | rfl
theorem d18_0 : decode jdk_52_method_15_code 0 = .ok (.iload_n 1, 1) := by decide +kernel
theorem d18_1 : decode jdk_52_method_15_code 1 = .ok (.aload_n 0, 1) := by decide +kernel
theorem d18_2 : decode jdk_52_method_15_code 2 = .ok (.arraylength, 1) := by decide +kernel
theorem d18_3 : decode jdk_52_method_15_code 3 = .ok (.isub, 1) := by decide +kernel
theorem d18_4 : decode jdk_52_method_15_code 4 = .ok (.bipush 31, 2) := by decide +kernel
theorem d18_6 : decode jdk_52_method_15_code 6 = .ok (.iushr, 1) := by decide +kernel
theorem d18_7 : decode jdk_52_method_15_code 7 = .ok (.i2b, 1) := by decide +kernel
theorem d18_8 : decode jdk_52_method_15_code 8 = .ok (.ireturn, 1) := by decide +kernel
set_option maxRecDepth 65536 in
set_option maxHeartbeats 40000000 in
theorem rmZ (l : Launch) (Z : State) (a0 : Array Value) (hw : ∀ d ∈ tables_1, d.before a0 Z = true) (h0 : Heap) (a1 : Addr) (kk1 : ClassId) (z p2 : Int32) (vs : List Value) (V1 : Arv Z h0 a1 kk1 .byte z vs (.int 0)) : Con l Z (⟨"java/lang/StringUTF16", "coderFromArrayLen", "([BI)B"⟩ : MethodName) jdk_52_method_15_code 2 (some .byte) [] ({ frames := 0, cells := 0, slots := 0, locals := 0 } : Room) 0 0 #[(.ref a1), (.int p2)] h0 (Pur (fun v => ∃ c, v = some (.int c)) h0) := by
  refine Con.intro (plainFor_of_name pn_0) ?_
  intro p e s m below meth c s₁ X0 hx hby hml hZ hown hnm hret hlk e0 hs0
  refine Gl.of (fun _ kq_ => castTop (ef_14 m a1 p2) kq_) ?_
  obtain ⟨zcl, zAr, zq, zS, zM, zH, zG⟩ := id V1
  show Gl p e below _ (s₁.setTop (mkF m 0 #[.val (.ref a1), .val (.int p2)] []))
  refine Gl.of (fun _ kq_ => XS.iloadN X0.here hx rfl (hb hby d18_0) rfl kq_) ?_
  show Gl p e below _ (s₁.setTop (mkF m 1 #[.val (.ref a1), .val (.int p2)] [(.int p2)]))
  refine Gl.of (fun _ kq_ => XS.aloadN X0.here hx rfl (hb hby d18_1) rfl rfl kq_) ?_
  show Gl p e below _ (s₁.setTop (mkF m 2 #[.val (.ref a1), .val (.int p2)] [(.ref a1), (.int p2)]))
  refine Gl.of (fun _ kq_ => X0.arraylength hx (by rw [e0]; exact (zAr).1) (State.isArrayOf_alike hZ.alike (zAr).2.1) (g := (mkF m 2 #[.val (.ref a1), .val (.int p2)] [(.ref a1), (.int p2)])) rfl rfl (hb hby d18_2) _ kq_) ?_
  rw [len_of zS zM]
  show Gl p e below _ (s₁.setTop (mkF m 3 #[.val (.ref a1), .val (.int p2)] [(.int z), (.int p2)]))
  refine Gl.of (fun _ kq_ => XS.isub X0.here hx rfl (hb hby d18_3) rfl kq_) ?_
  show Gl p e below _ (s₁.setTop (mkF m 4 #[.val (.ref a1), .val (.int p2)] [(.int (p2 - z))]))
  refine Gl.of (fun _ kq_ => XS.bipush X0.here hx rfl (hb hby d18_4) kq_) ?_
  show Gl p e below _ (s₁.setTop (mkF m 6 #[.val (.ref a1), .val (.int p2)] [(.int (31 : Int32)), (.int (p2 - z))]))
  refine Gl.of (fun _ kq_ => XS.iushr X0.here hx rfl (hb hby d18_6) rfl kq_) ?_
  show Gl p e below _ (s₁.setTop (mkF m 7 #[.val (.ref a1), .val (.int p2)] [(.int (((p2 - z).toUInt32 >>> ((31 : Int32) &&& 31).toUInt32).toInt32))]))
  refine Gl.of (fun _ kq_ => XS.i2b X0.here hx rfl (hb hby d18_7) rfl kq_) ?_
  show Gl p e below _ (s₁.setTop (mkF m 8 #[.val (.ref a1), .val (.int p2)] [(.int ((((p2 - z).toUInt32 >>> ((31 : Int32) &&& 31).toUInt32).toInt32).toInt8.toInt32))]))
  exact Gl.retN X0 hx hlk hret (by simp) (hb hby d18_8) e0 (⟨⟨_, rfl⟩, rfl, rfl⟩) (by decide) (by decide)
theorem ef_15 (m : MethodId) (x0 : Addr) (x1 : Addr) (x2 : Int32) (x3 : Int32)  : entryFrame m #[(.ref x0), (.ref x1), (.int x2), (.int x3), .null] 6 = mkF m 0 #[.val (.ref x0), .val (.ref x1), .val (.int x2), .val (.int x3), .val .null, .unset] [] := by first | (simp [entryFrame, mkF, argsToLocals, Value.category, maxLocals]; done) | rfl
theorem pn_1 : plainName "java/lang/String" = true := by first | (simp [plainName, overriddenIn]; done) | decide +kernel
theorem d3_0 : decode jdk_42_method_149_code 0 = .ok (.aload_n 0, 1) := by decide +kernel
theorem d3_1 : decode jdk_42_method_149_code 1 = .ok (.invokespecial 1, 3) := by decide +kernel
theorem w16 {Z : State} {a0 : Array Value} (hw : ∀ d ∈ tables_1, d.before a0 Z = true) : (Jvm.Cond.methodLink "java/lang/String" (1 : Nat) ({ cls := "java/lang/Object", name := "<init>", desc := "()V" } : Jvm.MethodName)).before a0 Z = true := hw _ (List.mem_of_getElem? (i := 16) rfl)
theorem w17 {Z : State} {a0 : Array Value} (hw : ∀ d ∈ tables_1, d.before a0 Z = true) : (Jvm.Cond.instanceMethod ({ cls := "java/lang/Object", name := "<init>", desc := "()V" } : Jvm.MethodName)).before a0 Z = true := hw _ (List.mem_of_getElem? (i := 17) rfl)
theorem w18 {Z : State} {a0 : Array Value} (hw : ∀ d ∈ tables_1, d.before a0 Z = true) : (Jvm.Cond.code ({ cls := "java/lang/Object", name := "<init>", desc := "()V" } : Jvm.MethodName) object_method_1_code (1 : Nat) (Option.none : Option Jvm.ClassFile.FieldType)).before a0 Z = true := hw _ (List.mem_of_getElem? (i := 18) rfl)
theorem d3_4 : decode jdk_42_method_149_code 4 = .ok (.iload_n 3, 1) := by decide +kernel
theorem d3_5 : decode jdk_42_method_149_code 5 = .ok (.ifCond .ne 22, 3) := by decide +kernel
theorem d3_27 : decode jdk_42_method_149_code 27 = .ok (.getstatic 38, 3) := by decide +kernel
theorem w75 {Z : State} {a0 : Array Value} (hw : ∀ d ∈ tables_1, d.before a0 Z = true) : (Jvm.Cond.fieldLink "java/lang/String" (38 : Nat) "java/lang/String" "COMPACT_STRINGS" "Z").before a0 Z = true := hw _ (List.mem_of_getElem? (i := 75) rfl)
theorem d3_30 : decode jdk_42_method_149_code 30 = .ok (.ifCond .eq 28, 3) := by decide +kernel
theorem d3_33 : decode jdk_42_method_149_code 33 = .ok (.aload_n 1, 1) := by decide +kernel
theorem d3_34 : decode jdk_42_method_149_code 34 = .ok (.iload_n 2, 1) := by decide +kernel
theorem d3_35 : decode jdk_42_method_149_code 35 = .ok (.iload_n 3, 1) := by decide +kernel
theorem d3_36 : decode jdk_42_method_149_code 36 = .ok (.invokestatic 177, 3) := by decide +kernel
theorem w76 {Z : State} {a0 : Array Value} (hw : ∀ d ∈ tables_1, d.before a0 Z = true) : (Jvm.Cond.methodLink "java/lang/String" (177 : Nat) ({ cls := "java/lang/StringUTF16", name := "compress", desc := "([CII)[B" } : Jvm.MethodName)).before a0 Z = true := hw _ (List.mem_of_getElem? (i := 76) rfl)
theorem w77 {Z : State} {a0 : Array Value} (hw : ∀ d ∈ tables_1, d.before a0 Z = true) : (Jvm.Cond.static ({ cls := "java/lang/StringUTF16", name := "compress", desc := "([CII)[B" } : Jvm.MethodName)).before a0 Z = true := hw _ (List.mem_of_getElem? (i := 77) rfl)
theorem w79 {Z : State} {a0 : Array Value} (hw : ∀ d ∈ tables_1, d.before a0 Z = true) : (Jvm.Cond.code ({ cls := "java/lang/StringUTF16", name := "compress", desc := "([CII)[B" } : Jvm.MethodName) jdk_52_method_16_code (6 : Nat) (Option.some (Jvm.ClassFile.FieldType.array Jvm.ClassFile.FieldType.byte))).before a0 Z = true := hw _ (List.mem_of_getElem? (i := 79) rfl)
theorem d3_39 : decode jdk_42_method_149_code 39 = .ok (.astore 5, 2) := by decide +kernel
theorem d3_41 : decode jdk_42_method_149_code 41 = .ok (.aload_n 0, 1) := by decide +kernel
theorem d3_42 : decode jdk_42_method_149_code 42 = .ok (.aload 5, 2) := by decide +kernel
theorem d3_44 : decode jdk_42_method_149_code 44 = .ok (.iload_n 3, 1) := by decide +kernel
theorem d3_45 : decode jdk_42_method_149_code 45 = .ok (.invokestatic 47, 3) := by decide +kernel
theorem pd_6 : parseMethodDescriptor "([BI)B" = some ⟨[(.array .byte), .int], some .byte⟩ := by decide +kernel
theorem w102 {Z : State} {a0 : Array Value} (hw : ∀ d ∈ tables_1, d.before a0 Z = true) : (Jvm.Cond.methodLink "java/lang/String" (47 : Nat) ({ cls := "java/lang/StringUTF16", name := "coderFromArrayLen", desc := "([BI)B" } : Jvm.MethodName)).before a0 Z = true := hw _ (List.mem_of_getElem? (i := 102) rfl)
theorem w103 {Z : State} {a0 : Array Value} (hw : ∀ d ∈ tables_1, d.before a0 Z = true) : (Jvm.Cond.static ({ cls := "java/lang/StringUTF16", name := "coderFromArrayLen", desc := "([BI)B" } : Jvm.MethodName)).before a0 Z = true := hw _ (List.mem_of_getElem? (i := 103) rfl)
theorem w104 {Z : State} {a0 : Array Value} (hw : ∀ d ∈ tables_1, d.before a0 Z = true) : (Jvm.Cond.code ({ cls := "java/lang/StringUTF16", name := "coderFromArrayLen", desc := "([BI)B" } : Jvm.MethodName) jdk_52_method_15_code (2 : Nat) (Option.some Jvm.ClassFile.FieldType.byte)).before a0 Z = true := hw _ (List.mem_of_getElem? (i := 104) rfl)
theorem d3_48 : decode jdk_42_method_149_code 48 = .ok (.putfield 15, 3) := by decide +kernel
theorem w26 {Z : State} {a0 : Array Value} (hw : ∀ d ∈ tables_1, d.before a0 Z = true) : (Jvm.Cond.fieldLink "java/lang/String" (15 : Nat) "java/lang/String" "coder" "B").before a0 Z = true := hw _ (List.mem_of_getElem? (i := 26) rfl)
theorem w22 {Z : State} {a0 : Array Value} (hw : ∀ d ∈ tables_1, d.before a0 Z = true) : (Jvm.Cond.laysFinal "java/lang/String" "java/lang/String" "coder" "B").before a0 Z = true := hw _ (List.mem_of_getElem? (i := 22) rfl)
theorem w6 {Z : State} {a0 : Array Value} (hw : ∀ d ∈ tables_1, d.before a0 Z = true) : (Jvm.Cond.instantiable "java/lang/String" (4 : Nat)).before a0 Z = true := hw _ (List.mem_of_getElem? (i := 6) rfl)
theorem w21 {Z : State} {a0 : Array Value} (hw : ∀ d ∈ tables_1, d.before a0 Z = true) : (Jvm.Cond.laysFinal "java/lang/String" "java/lang/String" "value" "[B").before a0 Z = true := hw _ (List.mem_of_getElem? (i := 21) rfl)
theorem d3_51 : decode jdk_42_method_149_code 51 = .ok (.aload_n 0, 1) := by decide +kernel
theorem d3_52 : decode jdk_42_method_149_code 52 = .ok (.aload 5, 2) := by decide +kernel
theorem d3_54 : decode jdk_42_method_149_code 54 = .ok (.putfield 9, 3) := by decide +kernel
theorem w25 {Z : State} {a0 : Array Value} (hw : ∀ d ∈ tables_1, d.before a0 Z = true) : (Jvm.Cond.fieldLink "java/lang/String" (9 : Nat) "java/lang/String" "value" "[B").before a0 Z = true := hw _ (List.mem_of_getElem? (i := 25) rfl)
theorem d3_57 : decode jdk_42_method_149_code 57 = .ok (.return_, 1) := by decide +kernel
set_option maxRecDepth 65536 in
set_option maxHeartbeats 40000000 in
theorem rmI2 (l : Launch) (Z : State) (a0 : Array Value) (hw : ∀ d ∈ tables_1, d.before a0 Z = true) (h0 : Heap) (b1 a1 : Addr) (kk1 : ClassId) (c0 c1 : Int32) (cz : Int32) (n0 : Nat) (E1 : Exa Z h0 b1 "java/lang/String") (Fv : Fld Z h0 b1 "java/lang/String" "value" "[B" .null) (Fc : Fld Z h0 b1 "java/lang/String" "coder" "B" (.int 0)) (Gb1 : n0 ≤ b1) (V1 : Arv Z h0 a1 kk1 .char (2 : Int32) [.int c0, .int c1] (.int 0)) (hab : ¬ a1 = b1) (hr0 : own_rg c0) (hr1 : own_rg c1) (SC : Sta Z Z.heap "java/lang/String" "COMPACT_STRINGS" "Z" (.int cz)) (hcz : ¬ cz = 0) (Sa : Sta Z Z.heap "java/lang/StringUTF16" "$assertionsDisabled" "Z" (.int 1)) (Sh : Sta Z Z.heap "java/lang/StringUTF16" "HI_BYTE_SHIFT" "I" (.int 0)) (Sl : Sta Z Z.heap "java/lang/StringUTF16" "LO_BYTE_SHIFT" "I" (.int 8)) (O0 : Old Z n0 h0) : Con l Z (⟨"java/lang/String", "<init>", "([CIILjava/lang/Void;)V"⟩ : MethodName) jdk_42_method_149_code 6 none [] ({ frames := 4, cells := 2, slots := 6, locals := 66 } : Room) 2 6 #[(.ref b1), (.ref a1), (.int (0 : Int32)), (.int (2 : Int32)), .null] h0 (fun v h L => v = none ∧ Fr n0 L ∧ Keep h0 h [b1] ∧ ∃ t k z vs, Fld Z h b1 "java/lang/String" "value" "[B" (.ref t) ∧ Arv Z h t k .byte z vs (.int 0) ∧ ¬ z = 0) := by
  refine Con.intro (plainFor_of_name pn_1) ?_
  intro p e s m below meth c s₁ X0 hx hby hml hZ hown hnm hret hlk e0 hs0
  refine Gl.of (fun _ kq_ => castTop (ef_15 m b1 a1 (0 : Int32) (2 : Int32) ) kq_) ?_
  have K0 := Keep.refl h0 [b1]
  show Gl p e below _ (s₁.setTop (mkF m 0 #[.val (.ref b1), .val (.ref a1), .val (.int (0 : Int32)), .val (.int (2 : Int32)), .val .null, .unset] []))
  refine Gl.of (fun _ kq_ => XS.aloadN X0.here hx rfl (hb hby d3_0) rfl rfl kq_) ?_
  show Gl p e below _ (s₁.setTop (mkF m 1 #[.val (.ref b1), .val (.ref a1), .val (.int (0 : Int32)), .val (.int (2 : Int32)), .val .null, .unset] [(.ref b1)]))
  obtain ⟨T1, X1, e1, st1⟩ := initO X0 hx hZ hown (w16 hw) (w17 hw) (w18 hw) e0 (g := (mkF m 1 #[.val (.ref b1), .val (.ref a1), .val (.int (0 : Int32)), .val (.int (2 : Int32)), .val .null, .unset] [(.ref b1)])) rfl (by rw [hml]; rfl) rfl (hb hby d3_1) (by decide) (W := 0) (by show 2 * 0 + _ ≤ _; exact Nat.le_of_eq rfl) (by decide)
  refine Gl.of st1 ?_
  show Gl p e below _ (T1.setTop (mkF m 4 #[.val (.ref b1), .val (.ref a1), .val (.int (0 : Int32)), .val (.int (2 : Int32)), .val .null, .unset] []))
  refine Gl.of (fun _ kq_ => XS.iloadN X1.here hx rfl (hb hby d3_4) rfl kq_) ?_
  show Gl p e below _ (T1.setTop (mkF m 5 #[.val (.ref b1), .val (.ref a1), .val (.int (0 : Int32)), .val (.int (2 : Int32)), .val .null, .unset] [(.int (2 : Int32))]))
  refine Gl.of (fun _ kq_ => XS.ifYes X1.here hx rfl (pc0 := 5) (pc' := 27) rfl (hb hby d3_5) rfl ((if0 _ _).trans (feq (by decide : ¬ ((2 : Int32) = (0 : Int32)))).2) (by decide) (by decide) kq_) ?_
  show Gl p e below _ (T1.setTop (mkF m 27 #[.val (.ref b1), .val (.ref a1), .val (.int (0 : Int32)), .val (.int (2 : Int32)), .val .null, .unset] []))
  obtain ⟨T2, X2, e2, st2⟩ := getS2 X1 hx hZ hown (host := "") (Or.inl (w75 hw)) Via.refl e1 (SC.ext O0.2) (g := (mkF m 27 #[.val (.ref b1), .val (.ref a1), .val (.int (0 : Int32)), .val (.int (2 : Int32)), .val .null, .unset] [])) rfl (hb hby d3_27)
  refine Gl.of st2 ?_
  show Gl p e below _ (T2.setTop (mkF m 30 #[.val (.ref b1), .val (.ref a1), .val (.int (0 : Int32)), .val (.int (2 : Int32)), .val .null, .unset] [(.int cz)]))
  refine Gl.of (fun _ kq_ => XS.ifNo X2.here hx rfl (hb hby d3_30) rfl ((if0 _ _).trans (feq hcz).1) kq_) ?_
  show Gl p e below _ (T2.setTop (mkF m 33 #[.val (.ref b1), .val (.ref a1), .val (.int (0 : Int32)), .val (.int (2 : Int32)), .val .null, .unset] []))
  refine Gl.of (fun _ kq_ => XS.aloadN X2.here hx rfl (hb hby d3_33) rfl rfl kq_) ?_
  show Gl p e below _ (T2.setTop (mkF m 34 #[.val (.ref b1), .val (.ref a1), .val (.int (0 : Int32)), .val (.int (2 : Int32)), .val .null, .unset] [(.ref a1)]))
  refine Gl.of (fun _ kq_ => XS.iloadN X2.here hx rfl (hb hby d3_34) rfl kq_) ?_
  show Gl p e below _ (T2.setTop (mkF m 35 #[.val (.ref b1), .val (.ref a1), .val (.int (0 : Int32)), .val (.int (2 : Int32)), .val .null, .unset] [(.int (0 : Int32)), (.ref a1)]))
  refine Gl.of (fun _ kq_ => XS.iloadN X2.here hx rfl (hb hby d3_35) rfl kq_) ?_
  show Gl p e below _ (T2.setTop (mkF m 36 #[.val (.ref b1), .val (.ref a1), .val (.int (0 : Int32)), .val (.int (2 : Int32)), .val .null, .unset] [(.int (2 : Int32)), (.int (0 : Int32)), (.ref a1)]))
  refine Gl.callS X2 hx hZ (y := (⟨"java/lang/StringUTF16", "compress", "([CII)[B"⟩ : MethodName)) hown (w76 hw) (w77 hw) (w78 hw) (w79 hw) (desc_ne (by decide)) (rm := { frames := 3, cells := 2, slots := 6, locals := 45 }) (argsL := [(.ref a1), (.int (0 : Int32)), (.int (2 : Int32))]) (rest := []) (rmC2 l Z a0 hw _ a1 kk1 c0 c1 n0 V1 hr0 hr1 Sa Sh Sl O0) 0 (by decide) (by decide) (by decide) (by decide) e2 (pc := 36) (Ls := #[.val (.ref b1), .val (.ref a1), .val (.int (0 : Int32)), .val (.int (2 : Int32)), .val .null, .unset]) (st := [(.int (2 : Int32)), (.int (0 : Int32)), (.ref a1)]) (by rw [hml]; rfl) pd_4 rfl rfl (Nat.le_of_eq rfl) (hb hby d3_36) ?_
  intro v3 T3 L3 X3 hQ3
  obtain ⟨r3, k3, z3, vs3, rfl, Vq3, hz3, Kq3, Nq3, Gr3, H3⟩ := hQ3
  have N3 := Fr.app (Fr.nil n0) Nq3
  have ne_a1_r3 : a1 ≠ r3 := Nat.ne_of_lt (Nat.lt_of_lt_of_le V1.lt H3)
  have ne_b1_r3 : b1 ≠ r3 := Nat.ne_of_lt (Nat.lt_of_lt_of_le E1.lt H3)
  have Jr3 : h0.size ≤ r3 := Nat.le_trans K0.1 H3
  have vc4 := V1.keep Kq3 (by simp)
  have ec5 := E1.keep Kq3
  have fc6 := Fv.keep Kq3 (by simp)
  have fc7 := Fc.keep Kq3 (by simp)
  have O3 := O0.keep Kq3 all0
  have K3 := K0.trans Kq3 (by intro x hx'; exact nomatch hx')
  show Gl p e below _ (T3.setTop (mkF m 39 #[.val (.ref b1), .val (.ref a1), .val (.int (0 : Int32)), .val (.int (2 : Int32)), .val .null, .unset] [(.ref r3)]))
  refine Gl.of (fun _ kq_ => XS.astore X3.here hx rfl (hb hby d3_39) rfl rfl (l' := #[.val (.ref b1), .val (.ref a1), .val (.int (0 : Int32)), .val (.int (2 : Int32)), .val .null, .val (.ref r3)]) rfl kq_) ?_
  show Gl p e below _ (T3.setTop (mkF m 41 #[.val (.ref b1), .val (.ref a1), .val (.int (0 : Int32)), .val (.int (2 : Int32)), .val .null, .val (.ref r3)] []))
  refine Gl.of (fun _ kq_ => XS.aloadN X3.here hx rfl (hb hby d3_41) rfl rfl kq_) ?_
  show Gl p e below _ (T3.setTop (mkF m 42 #[.val (.ref b1), .val (.ref a1), .val (.int (0 : Int32)), .val (.int (2 : Int32)), .val .null, .val (.ref r3)] [(.ref b1)]))
  refine Gl.of (fun _ kq_ => XS.aload X3.here hx rfl (hb hby d3_42) rfl rfl kq_) ?_
  show Gl p e below _ (T3.setTop (mkF m 44 #[.val (.ref b1), .val (.ref a1), .val (.int (0 : Int32)), .val (.int (2 : Int32)), .val .null, .val (.ref r3)] [(.ref r3), (.ref b1)]))
  refine Gl.of (fun _ kq_ => XS.iloadN X3.here hx rfl (hb hby d3_44) rfl kq_) ?_
  show Gl p e below _ (T3.setTop (mkF m 45 #[.val (.ref b1), .val (.ref a1), .val (.int (0 : Int32)), .val (.int (2 : Int32)), .val .null, .val (.ref r3)] [(.int (2 : Int32)), (.ref r3), (.ref b1)]))
  refine Gl.callS0 X3 hx hZ (y := (⟨"java/lang/StringUTF16", "coderFromArrayLen", "([BI)B"⟩ : MethodName)) hown (w102 hw) (w103 hw) (w78 hw) (w104 hw) (desc_ne (by decide)) (argsL := [(.ref r3), (.int (2 : Int32))]) (rest := [(.ref b1)]) (rmZ l Z a0 hw _ r3 k3 z3 (2 : Int32) vs3 Vq3) 1 (by decide) (by decide) rfl (pc := 45) (Ls := #[.val (.ref b1), .val (.ref a1), .val (.int (0 : Int32)), .val (.int (2 : Int32)), .val .null, .val (.ref r3)]) (st := [(.int (2 : Int32)), (.ref r3), (.ref b1)]) (by rw [hml]; rfl) pd_6 rfl rfl (Nat.le_of_eq rfl) (hb hby d3_45) (by decide) (by decide) ?_
  intro v8 T8 X8 e8 hv8
  obtain ⟨cd8, rfl⟩ := hv8
  show Gl p e below _ (T8.setTop (mkF m 48 #[.val (.ref b1), .val (.ref a1), .val (.int (0 : Int32)), .val (.int (2 : Int32)), .val .null, .val (.ref r3)] [(.int cd8), (.ref b1)]))
  obtain ⟨T9, h9, X9, e9, W9, st9⟩ := putFN X8 hx hZ hown (w26 hw) Via.refl e8 fc7 ec5 (Or.inr ⟨(w22 hw), rfl, hnm⟩) (w6 hw) (ty := .byte) (v' := (.int (nar .byte cd8))) (by decide) rfl (fits_nar_byte _) (g := (mkF m 48 #[.val (.ref b1), .val (.ref a1), .val (.int (0 : Int32)), .val (.int (2 : Int32)), .val .null, .val (.ref r3)] [(.int cd8), (.ref b1)])) rfl rfl (hb hby d3_48)
  refine Gl.of st9 ?_
  have F9 : Fld Z h9 b1 "java/lang/String" "coder" "B" (.int (nar .byte cd8)) := fc7.same W9
  have vc10 := vc4.other W9 hab
  have ec11 := ec5.wr W9
  have fc12 := fc6.other W9 (Or.inr (slot_ne (Or.inr (w21 hw)) (Or.inr (w22 hw)) (by decide) (t := (.array .byte)) (t' := .byte) (by decide) (by decide)))
  have vc13 := Vq3.other W9 ne_b1_r3.symm
  have N9 := Fr.snoc X9 N3 Gb1
  have O9 := O3.wr W9 Gb1
  have K9 := K3.wr W9 (Or.inl (List.mem_of_getElem? (i := 0) rfl))
  show Gl p e below _ (T9.setTop (mkF m 51 #[.val (.ref b1), .val (.ref a1), .val (.int (0 : Int32)), .val (.int (2 : Int32)), .val .null, .val (.ref r3)] []))
  refine Gl.of (fun _ kq_ => XS.aloadN X9.here hx rfl (hb hby d3_51) rfl rfl kq_) ?_
  show Gl p e below _ (T9.setTop (mkF m 52 #[.val (.ref b1), .val (.ref a1), .val (.int (0 : Int32)), .val (.int (2 : Int32)), .val .null, .val (.ref r3)] [(.ref b1)]))
  refine Gl.of (fun _ kq_ => XS.aload X9.here hx rfl (hb hby d3_52) rfl rfl kq_) ?_
  show Gl p e below _ (T9.setTop (mkF m 54 #[.val (.ref b1), .val (.ref a1), .val (.int (0 : Int32)), .val (.int (2 : Int32)), .val .null, .val (.ref r3)] [(.ref r3), (.ref b1)]))
  obtain ⟨T14, h14, X14, e14, W14, st14⟩ := putF X9 hx hZ hown (host := "") (Or.inl (w25 hw)) Via.refl e9 fc12 ec11 (Or.inr ⟨(w21 hw), rfl, hnm⟩) (w6 hw) (ty := (.array .byte)) (by decide) rfl rfl (g := (mkF m 54 #[.val (.ref b1), .val (.ref a1), .val (.int (0 : Int32)), .val (.int (2 : Int32)), .val .null, .val (.ref r3)] [(.ref r3), (.ref b1)])) rfl rfl (hb hby d3_54)
  refine Gl.of st14 ?_
  have F14 : Fld Z h14 b1 "java/lang/String" "value" "[B" (.ref r3) := fc12.same W14
  have vc15 := vc10.other W14 hab
  have ec16 := ec11.wr W14
  have vc17 := vc13.other W14 ne_b1_r3.symm
  have fc18 := F9.other W14 (Or.inr (slot_ne (Or.inr (w22 hw)) (Or.inr (w21 hw)) (by decide) (t := .byte) (t' := (.array .byte)) (by decide) (by decide)))
  have N14 := Fr.snoc X14 N9 Gb1
  have O14 := O9.wr W14 Gb1
  have K14 := K9.wr W14 (Or.inl (List.mem_of_getElem? (i := 0) rfl))
  show Gl p e below _ (T14.setTop (mkF m 57 #[.val (.ref b1), .val (.ref a1), .val (.int (0 : Int32)), .val (.int (2 : Int32)), .val .null, .val (.ref r3)] []))
  exact Gl.ret0 X14 hx hlk hret (hb hby d3_57) e14 (⟨rfl, N14, K14, _, _, _, _, F14, vc17, hz3⟩) (by decide) (by decide)
theorem ef_16 (m : MethodId) (x0 : Addr) (x1 : Addr) : entryFrame m #[(.ref x0), (.ref x1)] 2 = mkF m 0 #[.val (.ref x0), .val (.ref x1)] [] := by first | (simp [entryFrame, mkF, argsToLocals, Value.category, maxLocals]; done) | rfl
theorem d2_0 : decode jdk_42_method_3_code 0 = .ok (.aload_n 0, 1) := by decide +kernel
theorem d2_1 : decode jdk_42_method_3_code 1 = .ok (.aload_n 1, 1) := by decide +kernel
theorem d2_2 : decode jdk_42_method_3_code 2 = .ok (.iconst 0, 1) := by decide +kernel
theorem d2_3 : decode jdk_42_method_3_code 3 = .ok (.aload_n 1, 1) := by decide +kernel
theorem d2_4 : decode jdk_42_method_3_code 4 = .ok (.arraylength, 1) := by decide +kernel
theorem d2_5 : decode jdk_42_method_3_code 5 = .ok (.aconst_null, 1) := by decide +kernel
theorem d2_6 : decode jdk_42_method_3_code 6 = .ok (.invokespecial 27, 3) := by decide +kernel
theorem pd_7 : parseMethodDescriptor "([CIILjava/lang/Void;)V" = some ⟨[(.array .char), .int, .int, (.object "java/lang/Void")], none⟩ := by decide +kernel
theorem w12 {Z : State} {a0 : Array Value} (hw : ∀ d ∈ tables_1, d.before a0 Z = true) : (Jvm.Cond.methodLink "java/lang/String" (27 : Nat) ({ cls := "java/lang/String", name := "<init>", desc := "([CIILjava/lang/Void;)V" } : Jvm.MethodName)).before a0 Z = true := hw _ (List.mem_of_getElem? (i := 12) rfl)
theorem w13 {Z : State} {a0 : Array Value} (hw : ∀ d ∈ tables_1, d.before a0 Z = true) : (Jvm.Cond.instanceMethod ({ cls := "java/lang/String", name := "<init>", desc := "([CIILjava/lang/Void;)V" } : Jvm.MethodName)).before a0 Z = true := hw _ (List.mem_of_getElem? (i := 13) rfl)
theorem w7 {Z : State} {a0 : Array Value} (hw : ∀ d ∈ tables_1, d.before a0 Z = true) : (Jvm.Cond.initialized "java/lang/String").before a0 Z = true := hw _ (List.mem_of_getElem? (i := 7) rfl)
theorem w15 {Z : State} {a0 : Array Value} (hw : ∀ d ∈ tables_1, d.before a0 Z = true) : (Jvm.Cond.code ({ cls := "java/lang/String", name := "<init>", desc := "([CIILjava/lang/Void;)V" } : Jvm.MethodName) jdk_42_method_149_code (6 : Nat) (Option.none : Option Jvm.ClassFile.FieldType)).before a0 Z = true := hw _ (List.mem_of_getElem? (i := 15) rfl)
theorem d2_9 : decode jdk_42_method_3_code 9 = .ok (.return_, 1) := by decide +kernel
set_option maxRecDepth 65536 in
set_option maxHeartbeats 40000000 in
theorem rmJ2 (l : Launch) (Z : State) (a0 : Array Value) (hw : ∀ d ∈ tables_1, d.before a0 Z = true) (h0 : Heap) (b1 a1 : Addr) (kk1 : ClassId) (c0 c1 : Int32) (cz : Int32) (n0 : Nat) (E1 : Exa Z h0 b1 "java/lang/String") (Fv : Fld Z h0 b1 "java/lang/String" "value" "[B" .null) (Fc : Fld Z h0 b1 "java/lang/String" "coder" "B" (.int 0)) (Gb1 : n0 ≤ b1) (V1 : Arv Z h0 a1 kk1 .char (2 : Int32) [.int c0, .int c1] (.int 0)) (hab : ¬ a1 = b1) (hr0 : own_rg c0) (hr1 : own_rg c1) (SC : Sta Z Z.heap "java/lang/String" "COMPACT_STRINGS" "Z" (.int cz)) (hcz : ¬ cz = 0) (Sa : Sta Z Z.heap "java/lang/StringUTF16" "$assertionsDisabled" "Z" (.int 1)) (Sh : Sta Z Z.heap "java/lang/StringUTF16" "HI_BYTE_SHIFT" "I" (.int 0)) (Sl : Sta Z Z.heap "java/lang/StringUTF16" "LO_BYTE_SHIFT" "I" (.int 8)) (O0 : Old Z n0 h0) : Con l Z (⟨"java/lang/String", "<init>", "([C)V"⟩ : MethodName) jdk_42_method_3_code 2 none [] ({ frames := 5, cells := 2, slots := 6, locals := 84 } : Room) 2 6 #[(.ref b1), (.ref a1)] h0 (fun v h L => v = none ∧ Fr n0 L ∧ Keep h0 h [b1] ∧ ∃ t k z vs, Fld Z h b1 "java/lang/String" "value" "[B" (.ref t) ∧ Arv Z h t k .byte z vs (.int 0) ∧ ¬ z = 0) := by
  refine Con.intro (plainFor_of_name pn_1) ?_
  intro p e s m below meth c s₁ X0 hx hby hml hZ hown hnm hret hlk e0 hs0
  refine Gl.of (fun _ kq_ => castTop (ef_16 m b1 a1) kq_) ?_
  have K0 := Keep.refl h0 [b1]
  show Gl p e below _ (s₁.setTop (mkF m 0 #[.val (.ref b1), .val (.ref a1)] []))
  refine Gl.of (fun _ kq_ => XS.aloadN X0.here hx rfl (hb hby d2_0) rfl rfl kq_) ?_
  show Gl p e below _ (s₁.setTop (mkF m 1 #[.val (.ref b1), .val (.ref a1)] [(.ref b1)]))
  refine Gl.of (fun _ kq_ => XS.aloadN X0.here hx rfl (hb hby d2_1) rfl rfl kq_) ?_
  show Gl p e below _ (s₁.setTop (mkF m 2 #[.val (.ref b1), .val (.ref a1)] [(.ref a1), (.ref b1)]))
  refine Gl.of (fun _ kq_ => XS.iconst X0.here hx rfl (hb hby d2_2) kq_) ?_
  show Gl p e below _ (s₁.setTop (mkF m 3 #[.val (.ref b1), .val (.ref a1)] [(.int (0 : Int32)), (.ref a1), (.ref b1)]))
  refine Gl.of (fun _ kq_ => XS.aloadN X0.here hx rfl (hb hby d2_3) rfl rfl kq_) ?_
  show Gl p e below _ (s₁.setTop (mkF m 4 #[.val (.ref b1), .val (.ref a1)] [(.ref a1), (.int (0 : Int32)), (.ref a1), (.ref b1)]))
  obtain ⟨zcl1, zAr1, zq1, zS1, zM1, zH1, zG1⟩ := id V1
  refine Gl.of (fun _ kq_ => X0.arraylength hx (by rw [e0]; exact (zAr1).1) (State.isArrayOf_alike hZ.alike (zAr1).2.1) (g := (mkF m 4 #[.val (.ref b1), .val (.ref a1)] [(.ref a1), (.int (0 : Int32)), (.ref a1), (.ref b1)])) rfl rfl (hb hby d2_4) _ kq_) ?_
  rw [len_of zS1 (by decide)]
  show Gl p e below _ (s₁.setTop (mkF m 5 #[.val (.ref b1), .val (.ref a1)] [(.int (2 : Int32)), (.int (0 : Int32)), (.ref a1), (.ref b1)]))
  refine Gl.of (fun _ kq_ => XS.aconstNull X0.here hx rfl (hb hby d2_5) kq_) ?_
  show Gl p e below _ (s₁.setTop (mkF m 6 #[.val (.ref b1), .val (.ref a1)] [.null, (.int (2 : Int32)), (.int (0 : Int32)), (.ref a1), (.ref b1)]))
  refine Gl.callI X0 hx hZ (y := (⟨"java/lang/String", "<init>", "([CIILjava/lang/Void;)V"⟩ : MethodName)) rfl hown (w12 hw) (w13 hw) (w7 hw) (w15 hw) (desc_ne (by decide)) (rm := { frames := 4, cells := 2, slots := 6, locals := 66 }) (b := b1) (argsL := [(.ref a1), (.int (0 : Int32)), (.int (2 : Int32)), .null]) (rest := []) (rmI2 l Z a0 hw _ b1 a1 kk1 c0 c1 cz n0 E1 Fv Fc Gb1 V1 hab hr0 hr1 SC hcz Sa Sh Sl O0) 0 (by decide) (by decide) (by decide) (by decide) e0 (pc := 6) (Ls := #[.val (.ref b1), .val (.ref a1)]) (st := [.null, (.int (2 : Int32)), (.int (0 : Int32)), (.ref a1), (.ref b1)]) (by rw [hml]; rfl) pd_7 rfl rfl (Nat.le_of_eq rfl) (hb hby d2_6) ?_
  intro v2 T2 L2 X2 hQ2
  obtain ⟨rfl, Nq2, Kq2, t2, k2, z2, vs2, Fq2, Vq2, hz2⟩ := hQ2
  have N2 := Fr.app (Fr.nil n0) Nq2
  have vc3 := V1.keep Kq2 (fun q => hab (List.mem_singleton.mp q))
  have ec4 := E1.keep Kq2
  have O2 := O0.keep Kq2 (allS Gb1 all0)
  have K2 := K0.trans Kq2 (by intro x hx'; cases List.mem_singleton.mp hx'; exact Or.inl (List.mem_of_getElem? (i := 0) rfl))
  show Gl p e below _ (T2.setTop (mkF m 9 #[.val (.ref b1), .val (.ref a1)] []))
  exact Gl.ret0 X2 hx hlk hret (hb hby d2_9) rfl (⟨rfl, N2, K2, _, _, _, _, Fq2, Vq2, hz2⟩) (by decide) (by decide)
theorem ef_17 (m : MethodId) (x0 : Int32) : entryFrame m #[(.int x0)] 1 = mkF m 0 #[.val (.int x0)] [] := by first | (simp [entryFrame, mkF, argsToLocals, Value.category, maxLocals]; done) | rfl
set_option maxRecDepth 65536 in
set_option maxHeartbeats 40000000 in
theorem rmL3 (l : Launch) (Z : State) (a0 : Array Value) (hw : ∀ d ∈ tables_1, d.before a0 Z = true) (h0 : Heap) : Con l Z (⟨"java/lang/StringUTF16", "newBytesLength", "(I)I"⟩ : MethodName) jdk_52_method_3_code 1 (some .int) [] ({ frames := 0, cells := 0, slots := 0, locals := 0 } : Room) 0 0 #[(.int (3 : Int32))] h0 (Pur (fun v => v = some (.int (6 : Int32))) h0) := by
  refine Con.intro (plainFor_of_name pn_0) ?_
  intro p e s m below meth c s₁ X0 hx hby hml hZ hown hnm hret hlk e0 hs0
  refine Gl.of (fun _ kq_ => castTop (ef_17 m (3 : Int32)) kq_) ?_
  show Gl p e below _ (s₁.setTop (mkF m 0 #[.val (.int (3 : Int32))] []))
  refine Gl.of (fun _ kq_ => XS.iloadN X0.here hx rfl (hb hby d15_0) rfl kq_) ?_
  show Gl p e below _ (s₁.setTop (mkF m 1 #[.val (.int (3 : Int32))] [(.int (3 : Int32))]))
  refine Gl.of (fun _ kq_ => XS.ifYes X0.here hx rfl (pc0 := 1) (pc' := 12) rfl (hb hby d15_1) rfl ((if0 _ _).trans (flt (by decide : ¬ ((3 : Int32) < (0 : Int32)))).2.1) (by decide) (by decide) kq_) ?_
  show Gl p e below _ (s₁.setTop (mkF m 12 #[.val (.int (3 : Int32))] []))
  refine Gl.of (fun _ kq_ => XS.iloadN X0.here hx rfl (hb hby d15_12) rfl kq_) ?_
  show Gl p e below _ (s₁.setTop (mkF m 13 #[.val (.int (3 : Int32))] [(.int (3 : Int32))]))
  refine Gl.of (fun _ kq_ => X0.ldcInt hx hown (mvT hZ (w92 hw)) (g := (mkF m 13 #[.val (.int (3 : Int32))] [(.int (3 : Int32))])) rfl (hb hby d15_13) _ kq_) ?_
  show Gl p e below _ (s₁.setTop (mkF m 15 #[.val (.int (3 : Int32))] [(.int (1073741823 : Int32)), (.int (3 : Int32))]))
  refine Gl.of (fun _ kq_ => XS.icmpYes X0.here hx rfl (pc0 := 15) (pc' := 55) rfl (hb hby d15_15) rfl (tlt (by decide : (3 : Int32) < (1073741823 : Int32))).1 (by decide) (by decide) kq_) ?_
  show Gl p e below _ (s₁.setTop (mkF m 55 #[.val (.int (3 : Int32))] []))
  refine Gl.of (fun _ kq_ => XS.iloadN X0.here hx rfl (hb hby d15_55) rfl kq_) ?_
  show Gl p e below _ (s₁.setTop (mkF m 56 #[.val (.int (3 : Int32))] [(.int (3 : Int32))]))
  refine Gl.of (fun _ kq_ => XS.iconst X0.here hx rfl (hb hby d15_56) kq_) ?_
  show Gl p e below _ (s₁.setTop (mkF m 57 #[.val (.int (3 : Int32))] [(.int (1 : Int32)), (.int (3 : Int32))]))
  refine Gl.of (fun _ kq_ => XS.ishl X0.here hx rfl (hb hby d15_57) rfl kq_) ?_
  rw [show ((3 : Int32) <<< ((1 : Int32) &&& 31)) = (6 : Int32) from rfl]
  show Gl p e below _ (s₁.setTop (mkF m 58 #[.val (.int (3 : Int32))] [(.int (6 : Int32))]))
  exact Gl.retI X0 hx hlk hret (hb hby d15_58) e0 (⟨rfl, rfl, rfl⟩) (by decide) (by decide)
theorem ef_18 (m : MethodId) (x0 : Int32) : entryFrame m #[(.int x0)] 1 = mkF m 0 #[.val (.int x0)] [] := by first | (simp [entryFrame, mkF, argsToLocals, Value.category, maxLocals]; done) | rfl
set_option maxRecDepth 65536 in
set_option maxHeartbeats 40000000 in
theorem rmF3 (l : Launch) (Z : State) (a0 : Array Value) (hw : ∀ d ∈ tables_1, d.before a0 Z = true) (h0 : Heap) (n0 : Nat) (O0 : Old Z n0 h0) : Con l Z (⟨"java/lang/StringUTF16", "newBytesFor", "(I)[B"⟩ : MethodName) jdk_52_method_2_code 1 (some (.array .byte)) [] ({ frames := 1, cells := 1, slots := 6, locals := 13 } : Room) 1 6 #[(.int (3 : Int32))] h0 (fun v h L => ∃ r k, v = some (.ref r) ∧ Arv Z h r k .byte (6 : Int32) [.int (0 : Int32), .int (0 : Int32), .int (0 : Int32), .int (0 : Int32), .int (0 : Int32), .int (0 : Int32)] (.int 0) ∧ Keep h0 h [] ∧ Fr n0 L ∧ n0 ≤ r ∧ h0.size ≤ r) := by
  refine Con.intro (plainFor_of_name pn_0) ?_
  intro p e s m below meth c s₁ X0 hx hby hml hZ hown hnm hret hlk e0 hs0
  refine Gl.of (fun _ kq_ => castTop (ef_18 m (3 : Int32)) kq_) ?_
  have K0 := Keep.refl h0 []
  show Gl p e below _ (s₁.setTop (mkF m 0 #[.val (.int (3 : Int32))] []))
  refine Gl.of (fun _ kq_ => XS.iloadN X0.here hx rfl (hb hby d14_0) rfl kq_) ?_
  show Gl p e below _ (s₁.setTop (mkF m 1 #[.val (.int (3 : Int32))] [(.int (3 : Int32))]))
  refine Gl.callS0 X0 hx hZ (y := (⟨"java/lang/StringUTF16", "newBytesLength", "(I)I"⟩ : MethodName)) hown (w89 hw) (w90 hw) (w78 hw) (w91 hw) (desc_ne (by decide)) (argsL := [(.int (3 : Int32))]) (rest := []) (rmL3 l Z a0 hw _) 0 (by decide) (by decide) e0 (pc := 1) (Ls := #[.val (.int (3 : Int32))]) (st := [(.int (3 : Int32))]) (by rw [hml]; rfl) pd_0 rfl rfl (Nat.le_of_eq rfl) (hb hby d14_1) (by decide) (by decide) ?_
  intro v1 T1 X1 e1 hv1
  subst hv1
  show Gl p e below _ (T1.setTop (mkF m 4 #[.val (.int (3 : Int32))] [(.int (6 : Int32))]))
  obtain ⟨T2, h2, k2, X2, e2, E2, A2, st2⟩ := newP (aty := .byte) X1 hx hZ (w20 hw) e1 (g := (mkF m 4 #[.val (.int (3 : Int32))] [(.int (6 : Int32))])) rfl (hb hby d14_4) rfl (by decide) (cap := 6) (by decide) (by decide) (by decide) (by decide)
  obtain ⟨b2, g2⟩ : ∃ z, z = h0.size := ⟨_, rfl⟩
  rw [← g2] at A2 st2
  refine Gl.of st2 ?_
  have Gb2 : n0 ≤ b2 := Nat.le_trans (O0.1 ▸ O0.2.1) (Nat.le_of_eq g2.symm)
  have Jb2 : h0.size ≤ b2 := Nat.le_trans K0.1 (Nat.le_of_eq g2.symm)
  have O2 := O0.ext E2
  have K2 := K0.ext E2
  have V2 : Arv Z h2 b2 k2 .byte (6 : Int32) [(.int (0 : Int32)), (.int (0 : Int32)), (.int (0 : Int32)), (.int (0 : Int32)), (.int (0 : Int32)), (.int (0 : Int32))] (.int (0 : Int32)) := (Arv.new A2 (by decide)).pad (pad_rep [] (.int (0 : Int32)) 6)
  show Gl p e below _ (T2.setTop (mkF m 6 #[.val (.int (3 : Int32))] [(.ref b2)]))
  exact Gl.retR X2 hx hlk hret rfl rfl (hb hby d14_6) e2 (⟨_, _, rfl, V2, K2, (Fr.nil n0), Gb2, Jb2⟩) (by decide) (by decide)
theorem ef_19 (m : MethodId) (x0 : Addr) (x1 : Int32) (x2 : Int32) : entryFrame m #[(.ref x0), (.int x1), (.int x2)] 5 = mkF m 0 #[.val (.ref x0), .val (.int x1), .val (.int x2), .unset, .unset] [] := by first | (simp [entryFrame, mkF, argsToLocals, Value.category, maxLocals]; done) | rfl
set_option maxRecDepth 65536 in
set_option maxHeartbeats 40000000 in
theorem rmB3 (l : Launch) (Z : State) (a0 : Array Value) (hw : ∀ d ∈ tables_1, d.before a0 Z = true) (h0 : Heap) (a1 : Addr) (kk1 : ClassId) (c0 c1 c2 : Int32) (n0 : Nat) (V1 : Arv Z h0 a1 kk1 .char (3 : Int32) [.int c0, .int c1, .int c2] (.int 0)) (Sa : Sta Z Z.heap "java/lang/StringUTF16" "$assertionsDisabled" "Z" (.int 1)) (Sh : Sta Z Z.heap "java/lang/StringUTF16" "HI_BYTE_SHIFT" "I" (.int 0)) (Sl : Sta Z Z.heap "java/lang/StringUTF16" "LO_BYTE_SHIFT" "I" (.int 8)) (O0 : Old Z n0 h0) : Con l Z (⟨"java/lang/StringUTF16", "toBytes", "([CII)[B"⟩ : MethodName) jdk_52_method_14_code 5 (some (.array .byte)) [] ({ frames := 2, cells := 1, slots := 6, locals := 26 } : Room) 1 6 #[(.ref a1), (.int (0 : Int32)), (.int (3 : Int32))] h0 (fun v h L => ∃ r k, v = some (.ref r) ∧ Arv Z h r k .byte (6 : Int32) [.int (own_hi c0), .int (own_lo c0), .int (own_hi c1), .int (own_lo c1), .int (own_hi c2), .int (own_lo c2)] (.int 0) ∧ Keep h0 h [] ∧ Fr n0 L ∧ n0 ≤ r ∧ h0.size ≤ r) := by
  refine Con.intro (plainFor_of_name pn_0) ?_
  intro p e s m below meth c s₁ X0 hx hby hml hZ hown hnm hret hlk e0 hs0
  refine Gl.of (fun _ kq_ => castTop (ef_19 m a1 (0 : Int32) (3 : Int32)) kq_) ?_
  have K0 := Keep.refl h0 []
  show Gl p e below _ (s₁.setTop (mkF m 0 #[.val (.ref a1), .val (.int (0 : Int32)), .val (.int (3 : Int32)), .unset, .unset] []))
  refine Gl.of (fun _ kq_ => XS.iloadN X0.here hx rfl (hb hby d13_0) rfl kq_) ?_
  show Gl p e below _ (s₁.setTop (mkF m 1 #[.val (.ref a1), .val (.int (0 : Int32)), .val (.int (3 : Int32)), .unset, .unset] [(.int (3 : Int32))]))
  refine Gl.callS X0 hx hZ (y := (⟨"java/lang/StringUTF16", "newBytesFor", "(I)[B"⟩ : MethodName)) hown (w86 hw) (w87 hw) (w78 hw) (w88 hw) (desc_ne (by decide)) (rm := { frames := 1, cells := 1, slots := 6, locals := 13 }) (argsL := [(.int (3 : Int32))]) (rest := []) (rmF3 l Z a0 hw _ n0 O0) 0 (by decide) (by decide) (by decide) (by decide) e0 (pc := 1) (Ls := #[.val (.ref a1), .val (.int (0 : Int32)), .val (.int (3 : Int32)), .unset, .unset]) (st := [(.int (3 : Int32))]) (by rw [hml]; rfl) pd_1 rfl rfl (Nat.le_of_eq rfl) (hb hby d13_1) ?_
  intro v1 T1 L1 X1 hQ1
  obtain ⟨r1, k1, rfl, Vq1, Kq1, Nq1, Gr1, H1⟩ := hQ1
  have N1 := Fr.app (Fr.nil n0) Nq1
  have ne_a1_r1 : a1 ≠ r1 := Nat.ne_of_lt (Nat.lt_of_lt_of_le V1.lt H1)
  have Jr1 : h0.size ≤ r1 := Nat.le_trans K0.1 H1
  have vc2 := V1.keep Kq1 (by simp)
  have O1 := O0.keep Kq1 all0
  have K1 := K0.trans Kq1 (by intro x hx'; exact nomatch hx')
  show Gl p e below _ (T1.setTop (mkF m 4 #[.val (.ref a1), .val (.int (0 : Int32)), .val (.int (3 : Int32)), .unset, .unset] [(.ref r1)]))
  refine Gl.of (fun _ kq_ => XS.astoreN X1.here hx rfl (hb hby d13_4) rfl rfl (l' := #[.val (.ref a1), .val (.int (0 : Int32)), .val (.int (3 : Int32)), .val (.ref r1), .unset]) rfl kq_) ?_
  show Gl p e below _ (T1.setTop (mkF m 5 #[.val (.ref a1), .val (.int (0 : Int32)), .val (.int (3 : Int32)), .val (.ref r1), .unset] []))
  refine Gl.of (fun _ kq_ => XS.iconst X1.here hx rfl (hb hby d13_5) kq_) ?_
  show Gl p e below _ (T1.setTop (mkF m 6 #[.val (.ref a1), .val (.int (0 : Int32)), .val (.int (3 : Int32)), .val (.ref r1), .unset] [(.int (0 : Int32))]))
  refine Gl.of (fun _ kq_ => XS.istore X1.here hx rfl (hb hby d13_6) rfl (l' := #[.val (.ref a1), .val (.int (0 : Int32)), .val (.int (3 : Int32)), .val (.ref r1), .val (.int (0 : Int32))]) rfl kq_) ?_
  show Gl p e below _ (T1.setTop (mkF m 8 #[.val (.ref a1), .val (.int (0 : Int32)), .val (.int (3 : Int32)), .val (.ref r1), .val (.int (0 : Int32))] []))
  refine Gl.of (fun _ kq_ => XS.iload X1.here hx rfl (hb hby d13_8) rfl kq_) ?_
  show Gl p e below _ (T1.setTop (mkF m 10 #[.val (.ref a1), .val (.int (0 : Int32)), .val (.int (3 : Int32)), .val (.ref r1), .val (.int (0 : Int32))] [(.int (0 : Int32))]))
  refine Gl.of (fun _ kq_ => XS.iloadN X1.here hx rfl (hb hby d13_10) rfl kq_) ?_
  show Gl p e below _ (T1.setTop (mkF m 11 #[.val (.ref a1), .val (.int (0 : Int32)), .val (.int (3 : Int32)), .val (.ref r1), .val (.int (0 : Int32))] [(.int (3 : Int32)), (.int (0 : Int32))]))
  refine Gl.of (fun _ kq_ => XS.icmpNo X1.here hx rfl (hb hby d13_11) rfl (tlt (by decide : (0 : Int32) < (3 : Int32))).2.1 kq_) ?_
  show Gl p e below _ (T1.setTop (mkF m 14 #[.val (.ref a1), .val (.int (0 : Int32)), .val (.int (3 : Int32)), .val (.ref r1), .val (.int (0 : Int32))] []))
  refine Gl.of (fun _ kq_ => XS.aloadN X1.here hx rfl (hb hby d13_14) rfl rfl kq_) ?_
  show Gl p e below _ (T1.setTop (mkF m 15 #[.val (.ref a1), .val (.int (0 : Int32)), .val (.int (3 : Int32)), .val (.ref r1), .val (.int (0 : Int32))] [(.ref r1)]))
  refine Gl.of (fun _ kq_ => XS.iload X1.here hx rfl (hb hby d13_15) rfl kq_) ?_
  show Gl p e below _ (T1.setTop (mkF m 17 #[.val (.ref a1), .val (.int (0 : Int32)), .val (.int (3 : Int32)), .val (.ref r1), .val (.int (0 : Int32))] [(.int (0 : Int32)), (.ref r1)]))
  refine Gl.of (fun _ kq_ => XS.aloadN X1.here hx rfl (hb hby d13_17) rfl rfl kq_) ?_
  show Gl p e below _ (T1.setTop (mkF m 18 #[.val (.ref a1), .val (.int (0 : Int32)), .val (.int (3 : Int32)), .val (.ref r1), .val (.int (0 : Int32))] [(.ref a1), (.int (0 : Int32)), (.ref r1)]))
  refine Gl.of (fun _ kq_ => XS.iloadN X1.here hx rfl (hb hby d13_18) rfl kq_) ?_
  show Gl p e below _ (T1.setTop (mkF m 19 #[.val (.ref a1), .val (.int (0 : Int32)), .val (.int (3 : Int32)), .val (.ref r1), .val (.int (0 : Int32))] [(.int (0 : Int32)), (.ref a1), (.int (0 : Int32)), (.ref r1)]))
  obtain ⟨zcl3, zAr3, zq3, zS3, zM3, zH3, zG3⟩ := id vc2
  refine Gl.of (fun _ kq_ => X1.caload hx (j := (0 : Int32)) (v := (.int c0)) (zAr3).1 (State.isArrayOf_alike hZ.alike (zAr3).2.1) (zAr3).2.2 (inb_of zS3 ⟨by decide, by decide⟩) (zH3 0 (by rw [zS3]; decide)) (g := (mkF m 19 #[.val (.ref a1), .val (.int (0 : Int32)), .val (.int (3 : Int32)), .val (.ref r1), .val (.int (0 : Int32))] [(.int (0 : Int32)), (.ref a1), (.int (0 : Int32)), (.ref r1)])) rfl rfl (hb hby d13_19) _ kq_) ?_
  show Gl p e below _ (T1.setTop (mkF m 20 #[.val (.ref a1), .val (.int (0 : Int32)), .val (.int (3 : Int32)), .val (.ref r1), .val (.int (0 : Int32))] [(.int c0), (.int (0 : Int32)), (.ref r1)]))
  refine Gl.callS X1 hx hZ (y := (⟨"java/lang/StringUTF16", "putChar", "([BII)V"⟩ : MethodName)) hown (w93 hw) (w94 hw) (w78 hw) (w95 hw) (desc_ne (by decide)) (rm := { frames := 0, cells := 0, slots := 0, locals := 0 }) (argsL := [(.ref r1), (.int (0 : Int32)), (.int c0)]) (rest := []) (rmP60 l Z a0 hw _ r1 k1 (0 : Int32) (0 : Int32) (0 : Int32) (0 : Int32) (0 : Int32) (0 : Int32) c0 n0 Vq1 Gr1 Sa Sh Sl O1) 0 (by decide) (by decide) (by decide) (by decide) rfl (pc := 20) (Ls := #[.val (.ref a1), .val (.int (0 : Int32)), .val (.int (3 : Int32)), .val (.ref r1), .val (.int (0 : Int32))]) (st := [(.int c0), (.int (0 : Int32)), (.ref r1)]) (by rw [hml]; rfl) pd_2 rfl rfl (Nat.le_of_eq rfl) (hb hby d13_20) ?_
  intro v4 T4 L4 X4 hQ4
  obtain ⟨rfl, Nq4, Kq4, Vq4⟩ := hQ4
  have N4 := Fr.app N1 Nq4
  have vc5 := vc2.keep Kq4 (fun q => ne_a1_r1 (List.mem_singleton.mp q))
  have O4 := O1.keep Kq4 (allS Gr1 all0)
  have K4 := K1.trans Kq4 (by intro x hx'; cases List.mem_singleton.mp hx'; exact Or.inr Jr1)
  show Gl p e below _ (T4.setTop (mkF m 23 #[.val (.ref a1), .val (.int (0 : Int32)), .val (.int (3 : Int32)), .val (.ref r1), .val (.int (0 : Int32))] []))
  refine Gl.of (fun _ kq_ => XS.iinc X4.here hx rfl (hb hby d13_23) rfl (l' := #[.val (.ref a1), .val (.int (1 : Int32)), .val (.int (3 : Int32)), .val (.ref r1), .val (.int (0 : Int32))]) rfl kq_) ?_
  show Gl p e below _ (T4.setTop (mkF m 26 #[.val (.ref a1), .val (.int (1 : Int32)), .val (.int (3 : Int32)), .val (.ref r1), .val (.int (0 : Int32))] []))
  refine Gl.of (fun _ kq_ => XS.iinc X4.here hx rfl (hb hby d13_26) rfl (l' := #[.val (.ref a1), .val (.int (1 : Int32)), .val (.int (3 : Int32)), .val (.ref r1), .val (.int (1 : Int32))]) rfl kq_) ?_
  show Gl p e below _ (T4.setTop (mkF m 29 #[.val (.ref a1), .val (.int (1 : Int32)), .val (.int (3 : Int32)), .val (.ref r1), .val (.int (1 : Int32))] []))
  refine Gl.of (fun _ kq_ => XS.goto X4.here hx rfl (pc0 := 29) (pc' := 8) rfl (hb hby d13_29) (by decide) (by decide) kq_) ?_
  show Gl p e below _ (T4.setTop (mkF m 8 #[.val (.ref a1), .val (.int (1 : Int32)), .val (.int (3 : Int32)), .val (.ref r1), .val (.int (1 : Int32))] []))
  refine Gl.of (fun _ kq_ => XS.iload X4.here hx rfl (hb hby d13_8) rfl kq_) ?_
  show Gl p e below _ (T4.setTop (mkF m 10 #[.val (.ref a1), .val (.int (1 : Int32)), .val (.int (3 : Int32)), .val (.ref r1), .val (.int (1 : Int32))] [(.int (1 : Int32))]))
  refine Gl.of (fun _ kq_ => XS.iloadN X4.here hx rfl (hb hby d13_10) rfl kq_) ?_
  show Gl p e below _ (T4.setTop (mkF m 11 #[.val (.ref a1), .val (.int (1 : Int32)), .val (.int (3 : Int32)), .val (.ref r1), .val (.int (1 : Int32))] [(.int (3 : Int32)), (.int (1 : Int32))]))
  refine Gl.of (fun _ kq_ => XS.icmpNo X4.here hx rfl (hb hby d13_11) rfl (tlt (by decide : (1 : Int32) < (3 : Int32))).2.1 kq_) ?_
  show Gl p e below _ (T4.setTop (mkF m 14 #[.val (.ref a1), .val (.int (1 : Int32)), .val (.int (3 : Int32)), .val (.ref r1), .val (.int (1 : Int32))] []))
  refine Gl.of (fun _ kq_ => XS.aloadN X4.here hx rfl (hb hby d13_14) rfl rfl kq_) ?_
  show Gl p e below _ (T4.setTop (mkF m 15 #[.val (.ref a1), .val (.int (1 : Int32)), .val (.int (3 : Int32)), .val (.ref r1), .val (.int (1 : Int32))] [(.ref r1)]))
  refine Gl.of (fun _ kq_ => XS.iload X4.here hx rfl (hb hby d13_15) rfl kq_) ?_
  show Gl p e below _ (T4.setTop (mkF m 17 #[.val (.ref a1), .val (.int (1 : Int32)), .val (.int (3 : Int32)), .val (.ref r1), .val (.int (1 : Int32))] [(.int (1 : Int32)), (.ref r1)]))
  refine Gl.of (fun _ kq_ => XS.aloadN X4.here hx rfl (hb hby d13_17) rfl rfl kq_) ?_
  show Gl p e below _ (T4.setTop (mkF m 18 #[.val (.ref a1), .val (.int (1 : Int32)), .val (.int (3 : Int32)), .val (.ref r1), .val (.int (1 : Int32))] [(.ref a1), (.int (1 : Int32)), (.ref r1)]))
  refine Gl.of (fun _ kq_ => XS.iloadN X4.here hx rfl (hb hby d13_18) rfl kq_) ?_
  show Gl p e below _ (T4.setTop (mkF m 19 #[.val (.ref a1), .val (.int (1 : Int32)), .val (.int (3 : Int32)), .val (.ref r1), .val (.int (1 : Int32))] [(.int (1 : Int32)), (.ref a1), (.int (1 : Int32)), (.ref r1)]))
  obtain ⟨zcl6, zAr6, zq6, zS6, zM6, zH6, zG6⟩ := id vc5
  refine Gl.of (fun _ kq_ => X4.caload hx (j := (1 : Int32)) (v := (.int c1)) (zAr6).1 (State.isArrayOf_alike hZ.alike (zAr6).2.1) (zAr6).2.2 (inb_of zS6 ⟨by decide, by decide⟩) (zH6 1 (by rw [zS6]; decide)) (g := (mkF m 19 #[.val (.ref a1), .val (.int (1 : Int32)), .val (.int (3 : Int32)), .val (.ref r1), .val (.int (1 : Int32))] [(.int (1 : Int32)), (.ref a1), (.int (1 : Int32)), (.ref r1)])) rfl rfl (hb hby d13_19) _ kq_) ?_
  show Gl p e below _ (T4.setTop (mkF m 20 #[.val (.ref a1), .val (.int (1 : Int32)), .val (.int (3 : Int32)), .val (.ref r1), .val (.int (1 : Int32))] [(.int c1), (.int (1 : Int32)), (.ref r1)]))
  refine Gl.callS X4 hx hZ (y := (⟨"java/lang/StringUTF16", "putChar", "([BII)V"⟩ : MethodName)) hown (w93 hw) (w94 hw) (w78 hw) (w95 hw) (desc_ne (by decide)) (rm := { frames := 0, cells := 0, slots := 0, locals := 0 }) (argsL := [(.ref r1), (.int (1 : Int32)), (.int c1)]) (rest := []) (rmP61 l Z a0 hw _ r1 k1 (own_hi c0) (own_lo c0) (0 : Int32) (0 : Int32) (0 : Int32) (0 : Int32) c1 n0 Vq4 Gr1 Sa Sh Sl O4) 0 (by decide) (by decide) (by decide) (by decide) rfl (pc := 20) (Ls := #[.val (.ref a1), .val (.int (1 : Int32)), .val (.int (3 : Int32)), .val (.ref r1), .val (.int (1 : Int32))]) (st := [(.int c1), (.int (1 : Int32)), (.ref r1)]) (by rw [hml]; rfl) pd_2 rfl rfl (Nat.le_of_eq rfl) (hb hby d13_20) ?_
  intro v7 T7 L7 X7 hQ7
  obtain ⟨rfl, Nq7, Kq7, Vq7⟩ := hQ7
  have N7 := Fr.app N4 Nq7
  have vc8 := vc5.keep Kq7 (fun q => ne_a1_r1 (List.mem_singleton.mp q))
  have O7 := O4.keep Kq7 (allS Gr1 all0)
  have K7 := K4.trans Kq7 (by intro x hx'; cases List.mem_singleton.mp hx'; exact Or.inr Jr1)
  show Gl p e below _ (T7.setTop (mkF m 23 #[.val (.ref a1), .val (.int (1 : Int32)), .val (.int (3 : Int32)), .val (.ref r1), .val (.int (1 : Int32))] []))
  refine Gl.of (fun _ kq_ => XS.iinc X7.here hx rfl (hb hby d13_23) rfl (l' := #[.val (.ref a1), .val (.int (2 : Int32)), .val (.int (3 : Int32)), .val (.ref r1), .val (.int (1 : Int32))]) rfl kq_) ?_
  show Gl p e below _ (T7.setTop (mkF m 26 #[.val (.ref a1), .val (.int (2 : Int32)), .val (.int (3 : Int32)), .val (.ref r1), .val (.int (1 : Int32))] []))
  refine Gl.of (fun _ kq_ => XS.iinc X7.here hx rfl (hb hby d13_26) rfl (l' := #[.val (.ref a1), .val (.int (2 : Int32)), .val (.int (3 : Int32)), .val (.ref r1), .val (.int (2 : Int32))]) rfl kq_) ?_
  show Gl p e below _ (T7.setTop (mkF m 29 #[.val (.ref a1), .val (.int (2 : Int32)), .val (.int (3 : Int32)), .val (.ref r1), .val (.int (2 : Int32))] []))
  refine Gl.of (fun _ kq_ => XS.goto X7.here hx rfl (pc0 := 29) (pc' := 8) rfl (hb hby d13_29) (by decide) (by decide) kq_) ?_
  show Gl p e below _ (T7.setTop (mkF m 8 #[.val (.ref a1), .val (.int (2 : Int32)), .val (.int (3 : Int32)), .val (.ref r1), .val (.int (2 : Int32))] []))
  refine Gl.of (fun _ kq_ => XS.iload X7.here hx rfl (hb hby d13_8) rfl kq_) ?_
  show Gl p e below _ (T7.setTop (mkF m 10 #[.val (.ref a1), .val (.int (2 : Int32)), .val (.int (3 : Int32)), .val (.ref r1), .val (.int (2 : Int32))] [(.int (2 : Int32))]))
  refine Gl.of (fun _ kq_ => XS.iloadN X7.here hx rfl (hb hby d13_10) rfl kq_) ?_
  show Gl p e below _ (T7.setTop (mkF m 11 #[.val (.ref a1), .val (.int (2 : Int32)), .val (.int (3 : Int32)), .val (.ref r1), .val (.int (2 : Int32))] [(.int (3 : Int32)), (.int (2 : Int32))]))
  refine Gl.of (fun _ kq_ => XS.icmpNo X7.here hx rfl (hb hby d13_11) rfl (tlt (by decide : (2 : Int32) < (3 : Int32))).2.1 kq_) ?_
  show Gl p e below _ (T7.setTop (mkF m 14 #[.val (.ref a1), .val (.int (2 : Int32)), .val (.int (3 : Int32)), .val (.ref r1), .val (.int (2 : Int32))] []))
  refine Gl.of (fun _ kq_ => XS.aloadN X7.here hx rfl (hb hby d13_14) rfl rfl kq_) ?_
  show Gl p e below _ (T7.setTop (mkF m 15 #[.val (.ref a1), .val (.int (2 : Int32)), .val (.int (3 : Int32)), .val (.ref r1), .val (.int (2 : Int32))] [(.ref r1)]))
  refine Gl.of (fun _ kq_ => XS.iload X7.here hx rfl (hb hby d13_15) rfl kq_) ?_
  show Gl p e below _ (T7.setTop (mkF m 17 #[.val (.ref a1), .val (.int (2 : Int32)), .val (.int (3 : Int32)), .val (.ref r1), .val (.int (2 : Int32))] [(.int (2 : Int32)), (.ref r1)]))
  refine Gl.of (fun _ kq_ => XS.aloadN X7.here hx rfl (hb hby d13_17) rfl rfl kq_) ?_
  show Gl p e below _ (T7.setTop (mkF m 18 #[.val (.ref a1), .val (.int (2 : Int32)), .val (.int (3 : Int32)), .val (.ref r1), .val (.int (2 : Int32))] [(.ref a1), (.int (2 : Int32)), (.ref r1)]))
  refine Gl.of (fun _ kq_ => XS.iloadN X7.here hx rfl (hb hby d13_18) rfl kq_) ?_
  show Gl p e below _ (T7.setTop (mkF m 19 #[.val (.ref a1), .val (.int (2 : Int32)), .val (.int (3 : Int32)), .val (.ref r1), .val (.int (2 : Int32))] [(.int (2 : Int32)), (.ref a1), (.int (2 : Int32)), (.ref r1)]))
  obtain ⟨zcl9, zAr9, zq9, zS9, zM9, zH9, zG9⟩ := id vc8
  refine Gl.of (fun _ kq_ => X7.caload hx (j := (2 : Int32)) (v := (.int c2)) (zAr9).1 (State.isArrayOf_alike hZ.alike (zAr9).2.1) (zAr9).2.2 (inb_of zS9 ⟨by decide, by decide⟩) (zH9 2 (by rw [zS9]; decide)) (g := (mkF m 19 #[.val (.ref a1), .val (.int (2 : Int32)), .val (.int (3 : Int32)), .val (.ref r1), .val (.int (2 : Int32))] [(.int (2 : Int32)), (.ref a1), (.int (2 : Int32)), (.ref r1)])) rfl rfl (hb hby d13_19) _ kq_) ?_
  show Gl p e below _ (T7.setTop (mkF m 20 #[.val (.ref a1), .val (.int (2 : Int32)), .val (.int (3 : Int32)), .val (.ref r1), .val (.int (2 : Int32))] [(.int c2), (.int (2 : Int32)), (.ref r1)]))
  refine Gl.callS X7 hx hZ (y := (⟨"java/lang/StringUTF16", "putChar", "([BII)V"⟩ : MethodName)) hown (w93 hw) (w94 hw) (w78 hw) (w95 hw) (desc_ne (by decide)) (rm := { frames := 0, cells := 0, slots := 0, locals := 0 }) (argsL := [(.ref r1), (.int (2 : Int32)), (.int c2)]) (rest := []) (rmP62 l Z a0 hw _ r1 k1 (own_hi c0) (own_lo c0) (own_hi c1) (own_lo c1) (0 : Int32) (0 : Int32) c2 n0 Vq7 Gr1 Sa Sh Sl O7) 0 (by decide) (by decide) (by decide) (by decide) rfl (pc := 20) (Ls := #[.val (.ref a1), .val (.int (2 : Int32)), .val (.int (3 : Int32)), .val (.ref r1), .val (.int (2 : Int32))]) (st := [(.int c2), (.int (2 : Int32)), (.ref r1)]) (by rw [hml]; rfl) pd_2 rfl rfl (Nat.le_of_eq rfl) (hb hby d13_20) ?_
  intro v10 T10 L10 X10 hQ10
  obtain ⟨rfl, Nq10, Kq10, Vq10⟩ := hQ10
  have N10 := Fr.app N7 Nq10
  have vc11 := vc8.keep Kq10 (fun q => ne_a1_r1 (List.mem_singleton.mp q))
  have O10 := O7.keep Kq10 (allS Gr1 all0)
  have K10 := K7.trans Kq10 (by intro x hx'; cases List.mem_singleton.mp hx'; exact Or.inr Jr1)
  show Gl p e below _ (T10.setTop (mkF m 23 #[.val (.ref a1), .val (.int (2 : Int32)), .val (.int (3 : Int32)), .val (.ref r1), .val (.int (2 : Int32))] []))
  refine Gl.of (fun _ kq_ => XS.iinc X10.here hx rfl (hb hby d13_23) rfl (l' := #[.val (.ref a1), .val (.int (3 : Int32)), .val (.int (3 : Int32)), .val (.ref r1), .val (.int (2 : Int32))]) rfl kq_) ?_
  show Gl p e below _ (T10.setTop (mkF m 26 #[.val (.ref a1), .val (.int (3 : Int32)), .val (.int (3 : Int32)), .val (.ref r1), .val (.int (2 : Int32))] []))
  refine Gl.of (fun _ kq_ => XS.iinc X10.here hx rfl (hb hby d13_26) rfl (l' := #[.val (.ref a1), .val (.int (3 : Int32)), .val (.int (3 : Int32)), .val (.ref r1), .val (.int (3 : Int32))]) rfl kq_) ?_
  show Gl p e below _ (T10.setTop (mkF m 29 #[.val (.ref a1), .val (.int (3 : Int32)), .val (.int (3 : Int32)), .val (.ref r1), .val (.int (3 : Int32))] []))
  refine Gl.of (fun _ kq_ => XS.goto X10.here hx rfl (pc0 := 29) (pc' := 8) rfl (hb hby d13_29) (by decide) (by decide) kq_) ?_
  show Gl p e below _ (T10.setTop (mkF m 8 #[.val (.ref a1), .val (.int (3 : Int32)), .val (.int (3 : Int32)), .val (.ref r1), .val (.int (3 : Int32))] []))
  refine Gl.of (fun _ kq_ => XS.iload X10.here hx rfl (hb hby d13_8) rfl kq_) ?_
  show Gl p e below _ (T10.setTop (mkF m 10 #[.val (.ref a1), .val (.int (3 : Int32)), .val (.int (3 : Int32)), .val (.ref r1), .val (.int (3 : Int32))] [(.int (3 : Int32))]))
  refine Gl.of (fun _ kq_ => XS.iloadN X10.here hx rfl (hb hby d13_10) rfl kq_) ?_
  show Gl p e below _ (T10.setTop (mkF m 11 #[.val (.ref a1), .val (.int (3 : Int32)), .val (.int (3 : Int32)), .val (.ref r1), .val (.int (3 : Int32))] [(.int (3 : Int32)), (.int (3 : Int32))]))
  refine Gl.of (fun _ kq_ => XS.icmpYes X10.here hx rfl (pc0 := 11) (pc' := 32) rfl (hb hby d13_11) rfl (flt (by decide : ¬ ((3 : Int32) < (3 : Int32)))).2.1 (by decide) (by decide) kq_) ?_
  show Gl p e below _ (T10.setTop (mkF m 32 #[.val (.ref a1), .val (.int (3 : Int32)), .val (.int (3 : Int32)), .val (.ref r1), .val (.int (3 : Int32))] []))
  refine Gl.of (fun _ kq_ => XS.aloadN X10.here hx rfl (hb hby d13_32) rfl rfl kq_) ?_
  show Gl p e below _ (T10.setTop (mkF m 33 #[.val (.ref a1), .val (.int (3 : Int32)), .val (.int (3 : Int32)), .val (.ref r1), .val (.int (3 : Int32))] [(.ref r1)]))
  exact Gl.retR X10 hx hlk hret rfl rfl (hb hby d13_33) rfl (⟨_, _, rfl, Vq10, K10, N10, Gr1, Jr1⟩) (by decide) (by decide)
theorem ef_20 (m : MethodId) (x0 : Addr) (x1 : Int32) : entryFrame m #[(.ref x0), (.int x1)] 2 = mkF m 0 #[.val (.ref x0), .val (.int x1)] [] := by first | (simp [entryFrame, mkF, argsToLocals, Value.category, maxLocals]; done) | rfl
set_option maxRecDepth 65536 in
set_option maxHeartbeats 40000000 in
theorem rmG30 (l : Launch) (Z : State) (a0 : Array Value) (hw : ∀ d ∈ tables_1, d.before a0 Z = true) (h0 : Heap) (a1 : Addr) (kk1 : ClassId) (y0 y1 y2 y3 y4 y5 : Int32) (n0 : Nat) (V1 : Arv Z h0 a1 kk1 .byte (6 : Int32) [.int y0, .int y1, .int y2, .int y3, .int y4, .int y5] (.int 0)) (Sa : Sta Z Z.heap "java/lang/StringUTF16" "$assertionsDisabled" "Z" (.int 1)) (Sh : Sta Z Z.heap "java/lang/StringUTF16" "HI_BYTE_SHIFT" "I" (.int 0)) (Sl : Sta Z Z.heap "java/lang/StringUTF16" "LO_BYTE_SHIFT" "I" (.int 8)) (O0 : Old Z n0 h0) : Con l Z (⟨"java/lang/StringUTF16", "getChar", "([BI)C"⟩ : MethodName) jdk_52_method_5_code 2 (some .char) [] ({ frames := 0, cells := 0, slots := 0, locals := 0 } : Room) 0 0 #[(.ref a1), (.int (0 : Int32))] h0 (Pur (fun v => v = some (.int (own_gc y0 y1))) h0) := by
  refine Con.intro (plainFor_of_name pn_0) ?_
  intro p e s m below meth c s₁ X0 hx hby hml hZ hown hnm hret hlk e0 hs0
  refine Gl.of (fun _ kq_ => castTop (ef_20 m a1 (0 : Int32)) kq_) ?_
  show Gl p e below _ (s₁.setTop (mkF m 0 #[.val (.ref a1), .val (.int (0 : Int32))] []))
  obtain ⟨T1, X1, e1, st1⟩ := getS2 X0 hx hZ hown (host := "") (Or.inl (w96 hw)) Via.refl e0 (Sa.ext O0.2) (g := (mkF m 0 #[.val (.ref a1), .val (.int (0 : Int32))] [])) rfl (hb hby d17_0)
  refine Gl.of st1 ?_
  show Gl p e below _ (T1.setTop (mkF m 3 #[.val (.ref a1), .val (.int (0 : Int32))] [(.int (1 : Int32))]))
  refine Gl.of (fun _ kq_ => XS.ifYes X1.here hx rfl (pc0 := 3) (pc' := 28) rfl (hb hby d17_3) rfl ((if0 _ _).trans (feq (by decide : ¬ ((1 : Int32) = (0 : Int32)))).2) (by decide) (by decide) kq_) ?_
  show Gl p e below _ (T1.setTop (mkF m 28 #[.val (.ref a1), .val (.int (0 : Int32))] []))
  refine Gl.of (fun _ kq_ => XS.iloadN X1.here hx rfl (hb hby d17_28) rfl kq_) ?_
  show Gl p e below _ (T1.setTop (mkF m 29 #[.val (.ref a1), .val (.int (0 : Int32))] [(.int (0 : Int32))]))
  refine Gl.of (fun _ kq_ => XS.iconst X1.here hx rfl (hb hby d17_29) kq_) ?_
  show Gl p e below _ (T1.setTop (mkF m 30 #[.val (.ref a1), .val (.int (0 : Int32))] [(.int (1 : Int32)), (.int (0 : Int32))]))
  refine Gl.of (fun _ kq_ => XS.ishl X1.here hx rfl (hb hby d17_30) rfl kq_) ?_
  rw [show ((0 : Int32) <<< ((1 : Int32) &&& 31)) = (0 : Int32) from rfl]
  show Gl p e below _ (T1.setTop (mkF m 31 #[.val (.ref a1), .val (.int (0 : Int32))] [(.int (0 : Int32))]))
  refine Gl.of (fun _ kq_ => XS.istoreN X1.here hx rfl (hb hby d17_31) rfl (l' := #[.val (.ref a1), .val (.int (0 : Int32))]) rfl kq_) ?_
  show Gl p e below _ (T1.setTop (mkF m 32 #[.val (.ref a1), .val (.int (0 : Int32))] []))
  refine Gl.of (fun _ kq_ => XS.aloadN X1.here hx rfl (hb hby d17_32) rfl rfl kq_) ?_
  show Gl p e below _ (T1.setTop (mkF m 33 #[.val (.ref a1), .val (.int (0 : Int32))] [(.ref a1)]))
  refine Gl.of (fun _ kq_ => XS.iloadN X1.here hx rfl (hb hby d17_33) rfl kq_) ?_
  show Gl p e below _ (T1.setTop (mkF m 34 #[.val (.ref a1), .val (.int (0 : Int32))] [(.int (0 : Int32)), (.ref a1)]))
  refine Gl.of (fun _ kq_ => XS.iinc X1.here hx rfl (hb hby d17_34) rfl (l' := #[.val (.ref a1), .val (.int (1 : Int32))]) rfl kq_) ?_
  show Gl p e below _ (T1.setTop (mkF m 37 #[.val (.ref a1), .val (.int (1 : Int32))] [(.int (0 : Int32)), (.ref a1)]))
  obtain ⟨zcl2, zAr2, zq2, zS2, zM2, zH2, zG2⟩ := id V1
  refine Gl.of (fun _ kq_ => X1.baloadBytes hx (j := (0 : Int32)) (v := (.int y0)) (by rw [e1]; exact (zAr2).1) (State.isArrayOf_alike hZ.alike (zAr2).2.1) (zAr2).2.2 (inb_of zS2 ⟨by decide, by decide⟩) (zH2 0 (by rw [zS2]; decide)) (g := (mkF m 37 #[.val (.ref a1), .val (.int (1 : Int32))] [(.int (0 : Int32)), (.ref a1)])) rfl rfl (hb hby d17_37) _ kq_) ?_
  show Gl p e below _ (T1.setTop (mkF m 38 #[.val (.ref a1), .val (.int (1 : Int32))] [(.int y0)]))
  refine Gl.of (fun _ kq_ => XS.sipush X1.here hx rfl (hb hby d17_38) kq_) ?_
  show Gl p e below _ (T1.setTop (mkF m 41 #[.val (.ref a1), .val (.int (1 : Int32))] [(.int (255 : Int32)), (.int y0)]))
  refine Gl.of (fun _ kq_ => XS.iand X1.here hx rfl (hb hby d17_41) rfl kq_) ?_
  show Gl p e below _ (T1.setTop (mkF m 42 #[.val (.ref a1), .val (.int (1 : Int32))] [(.int (y0 &&& (255 : Int32)))]))
  obtain ⟨T3, X3, e3, st3⟩ := getS2 X1 hx hZ hown (host := "") (Or.inl (w97 hw)) Via.refl e1 (Sh.ext O0.2) (g := (mkF m 42 #[.val (.ref a1), .val (.int (1 : Int32))] [(.int (y0 &&& (255 : Int32)))])) rfl (hb hby d17_42)
  refine Gl.of st3 ?_
  show Gl p e below _ (T3.setTop (mkF m 45 #[.val (.ref a1), .val (.int (1 : Int32))] [(.int (0 : Int32)), (.int (y0 &&& (255 : Int32)))]))
  refine Gl.of (fun _ kq_ => XS.ishl X3.here hx rfl (hb hby d17_45) rfl kq_) ?_
  show Gl p e below _ (T3.setTop (mkF m 46 #[.val (.ref a1), .val (.int (1 : Int32))] [(.int ((y0 &&& (255 : Int32)) <<< ((0 : Int32) &&& 31)))]))
  refine Gl.of (fun _ kq_ => XS.aloadN X3.here hx rfl (hb hby d17_46) rfl rfl kq_) ?_
  show Gl p e below _ (T3.setTop (mkF m 47 #[.val (.ref a1), .val (.int (1 : Int32))] [(.ref a1), (.int ((y0 &&& (255 : Int32)) <<< ((0 : Int32) &&& 31)))]))
  refine Gl.of (fun _ kq_ => XS.iloadN X3.here hx rfl (hb hby d17_47) rfl kq_) ?_
  show Gl p e below _ (T3.setTop (mkF m 48 #[.val (.ref a1), .val (.int (1 : Int32))] [(.int (1 : Int32)), (.ref a1), (.int ((y0 &&& (255 : Int32)) <<< ((0 : Int32) &&& 31)))]))
  obtain ⟨zcl4, zAr4, zq4, zS4, zM4, zH4, zG4⟩ := id V1
  refine Gl.of (fun _ kq_ => X3.baloadBytes hx (j := (1 : Int32)) (v := (.int y1)) (by rw [e3]; exact (zAr4).1) (State.isArrayOf_alike hZ.alike (zAr4).2.1) (zAr4).2.2 (inb_of zS4 ⟨by decide, by decide⟩) (zH4 1 (by rw [zS4]; decide)) (g := (mkF m 48 #[.val (.ref a1), .val (.int (1 : Int32))] [(.int (1 : Int32)), (.ref a1), (.int ((y0 &&& (255 : Int32)) <<< ((0 : Int32) &&& 31)))])) rfl rfl (hb hby d17_48) _ kq_) ?_
  show Gl p e below _ (T3.setTop (mkF m 49 #[.val (.ref a1), .val (.int (1 : Int32))] [(.int y1), (.int ((y0 &&& (255 : Int32)) <<< ((0 : Int32) &&& 31)))]))
  refine Gl.of (fun _ kq_ => XS.sipush X3.here hx rfl (hb hby d17_49) kq_) ?_
  show Gl p e below _ (T3.setTop (mkF m 52 #[.val (.ref a1), .val (.int (1 : Int32))] [(.int (255 : Int32)), (.int y1), (.int ((y0 &&& (255 : Int32)) <<< ((0 : Int32) &&& 31)))]))
  refine Gl.of (fun _ kq_ => XS.iand X3.here hx rfl (hb hby d17_52) rfl kq_) ?_
  show Gl p e below _ (T3.setTop (mkF m 53 #[.val (.ref a1), .val (.int (1 : Int32))] [(.int (y1 &&& (255 : Int32))), (.int ((y0 &&& (255 : Int32)) <<< ((0 : Int32) &&& 31)))]))
  obtain ⟨T5, X5, e5, st5⟩ := getS2 X3 hx hZ hown (host := "") (Or.inl (w98 hw)) Via.refl e3 (Sl.ext O0.2) (g := (mkF m 53 #[.val (.ref a1), .val (.int (1 : Int32))] [(.int (y1 &&& (255 : Int32))), (.int ((y0 &&& (255 : Int32)) <<< ((0 : Int32) &&& 31)))])) rfl (hb hby d17_53)
  refine Gl.of st5 ?_
  show Gl p e below _ (T5.setTop (mkF m 56 #[.val (.ref a1), .val (.int (1 : Int32))] [(.int (8 : Int32)), (.int (y1 &&& (255 : Int32))), (.int ((y0 &&& (255 : Int32)) <<< ((0 : Int32) &&& 31)))]))
  refine Gl.of (fun _ kq_ => XS.ishl X5.here hx rfl (hb hby d17_56) rfl kq_) ?_
  show Gl p e below _ (T5.setTop (mkF m 57 #[.val (.ref a1), .val (.int (1 : Int32))] [(.int ((y1 &&& (255 : Int32)) <<< ((8 : Int32) &&& 31))), (.int ((y0 &&& (255 : Int32)) <<< ((0 : Int32) &&& 31)))]))
  refine Gl.of (fun _ kq_ => XS.ior X5.here hx rfl (hb hby d17_57) rfl kq_) ?_
  show Gl p e below _ (T5.setTop (mkF m 58 #[.val (.ref a1), .val (.int (1 : Int32))] [(.int (((y0 &&& (255 : Int32)) <<< ((0 : Int32) &&& 31)) ||| ((y1 &&& (255 : Int32)) <<< ((8 : Int32) &&& 31))))]))
  refine Gl.of (fun _ kq_ => XS.i2c X5.here hx rfl (hb hby d17_58) rfl kq_) ?_
  show Gl p e below _ (T5.setTop (mkF m 59 #[.val (.ref a1), .val (.int (1 : Int32))] [(.int ((((y0 &&& (255 : Int32)) <<< ((0 : Int32) &&& 31)) ||| ((y1 &&& (255 : Int32)) <<< ((8 : Int32) &&& 31))).toUInt32.toUInt16.toUInt32.toInt32))]))
  exact Gl.retN X5 hx hlk hret (by simp) (hb hby d17_59) e5 (⟨rfl, rfl, rfl⟩) (by decide) (by decide)
theorem ef_21 (m : MethodId) (x0 : Addr) (x1 : Int32) : entryFrame m #[(.ref x0), (.int x1)] 2 = mkF m 0 #[.val (.ref x0), .val (.int x1)] [] := by first | (simp [entryFrame, mkF, argsToLocals, Value.category, maxLocals]; done) | rfl
set_option maxRecDepth 65536 in
set_option maxHeartbeats 40000000 in
theorem rmG31 (l : Launch) (Z : State) (a0 : Array Value) (hw : ∀ d ∈ tables_1, d.before a0 Z = true) (h0 : Heap) (a1 : Addr) (kk1 : ClassId) (y0 y1 y2 y3 y4 y5 : Int32) (n0 : Nat) (V1 : Arv Z h0 a1 kk1 .byte (6 : Int32) [.int y0, .int y1, .int y2, .int y3, .int y4, .int y5] (.int 0)) (Sa : Sta Z Z.heap "java/lang/StringUTF16" "$assertionsDisabled" "Z" (.int 1)) (Sh : Sta Z Z.heap "java/lang/StringUTF16" "HI_BYTE_SHIFT" "I" (.int 0)) (Sl : Sta Z Z.heap "java/lang/StringUTF16" "LO_BYTE_SHIFT" "I" (.int 8)) (O0 : Old Z n0 h0) : Con l Z (⟨"java/lang/StringUTF16", "getChar", "([BI)C"⟩ : MethodName) jdk_52_method_5_code 2 (some .char) [] ({ frames := 0, cells := 0, slots := 0, locals := 0 } : Room) 0 0 #[(.ref a1), (.int (1 : Int32))] h0 (Pur (fun v => v = some (.int (own_gc y2 y3))) h0) := by
  refine Con.intro (plainFor_of_name pn_0) ?_
  intro p e s m below meth c s₁ X0 hx hby hml hZ hown hnm hret hlk e0 hs0
  refine Gl.of (fun _ kq_ => castTop (ef_21 m a1 (1 : Int32)) kq_) ?_
  show Gl p e below _ (s₁.setTop (mkF m 0 #[.val (.ref a1), .val (.int (1 : Int32))] []))
  obtain ⟨T1, X1, e1, st1⟩ := getS2 X0 hx hZ hown (host := "") (Or.inl (w96 hw)) Via.refl e0 (Sa.ext O0.2) (g := (mkF m 0 #[.val (.ref a1), .val (.int (1 : Int32))] [])) rfl (hb hby d17_0)
  refine Gl.of st1 ?_
  show Gl p e below _ (T1.setTop (mkF m 3 #[.val (.ref a1), .val (.int (1 : Int32))] [(.int (1 : Int32))]))
  refine Gl.of (fun _ kq_ => XS.ifYes X1.here hx rfl (pc0 := 3) (pc' := 28) rfl (hb hby d17_3) rfl ((if0 _ _).trans (feq (by decide : ¬ ((1 : Int32) = (0 : Int32)))).2) (by decide) (by decide) kq_) ?_
  show Gl p e below _ (T1.setTop (mkF m 28 #[.val (.ref a1), .val (.int (1 : Int32))] []))
  refine Gl.of (fun _ kq_ => XS.iloadN X1.here hx rfl (hb hby d17_28) rfl kq_) ?_
  show Gl p e below _ (T1.setTop (mkF m 29 #[.val (.ref a1), .val (.int (1 : Int32))] [(.int (1 : Int32))]))
  refine Gl.of (fun _ kq_ => XS.iconst X1.here hx rfl (hb hby d17_29) kq_) ?_
  show Gl p e below _ (T1.setTop (mkF m 30 #[.val (.ref a1), .val (.int (1 : Int32))] [(.int (1 : Int32)), (.int (1 : Int32))]))
  refine Gl.of (fun _ kq_ => XS.ishl X1.here hx rfl (hb hby d17_30) rfl kq_) ?_
  rw [show ((1 : Int32) <<< ((1 : Int32) &&& 31)) = (2 : Int32) from rfl]
  show Gl p e below _ (T1.setTop (mkF m 31 #[.val (.ref a1), .val (.int (1 : Int32))] [(.int (2 : Int32))]))
  refine Gl.of (fun _ kq_ => XS.istoreN X1.here hx rfl (hb hby d17_31) rfl (l' := #[.val (.ref a1), .val (.int (2 : Int32))]) rfl kq_) ?_
  show Gl p e below _ (T1.setTop (mkF m 32 #[.val (.ref a1), .val (.int (2 : Int32))] []))
  refine Gl.of (fun _ kq_ => XS.aloadN X1.here hx rfl (hb hby d17_32) rfl rfl kq_) ?_
  show Gl p e below _ (T1.setTop (mkF m 33 #[.val (.ref a1), .val (.int (2 : Int32))] [(.ref a1)]))
  refine Gl.of (fun _ kq_ => XS.iloadN X1.here hx rfl (hb hby d17_33) rfl kq_) ?_
  show Gl p e below _ (T1.setTop (mkF m 34 #[.val (.ref a1), .val (.int (2 : Int32))] [(.int (2 : Int32)), (.ref a1)]))
  refine Gl.of (fun _ kq_ => XS.iinc X1.here hx rfl (hb hby d17_34) rfl (l' := #[.val (.ref a1), .val (.int (3 : Int32))]) rfl kq_) ?_
  show Gl p e below _ (T1.setTop (mkF m 37 #[.val (.ref a1), .val (.int (3 : Int32))] [(.int (2 : Int32)), (.ref a1)]))
  obtain ⟨zcl2, zAr2, zq2, zS2, zM2, zH2, zG2⟩ := id V1
  refine Gl.of (fun _ kq_ => X1.baloadBytes hx (j := (2 : Int32)) (v := (.int y2)) (by rw [e1]; exact (zAr2).1) (State.isArrayOf_alike hZ.alike (zAr2).2.1) (zAr2).2.2 (inb_of zS2 ⟨by decide, by decide⟩) (zH2 2 (by rw [zS2]; decide)) (g := (mkF m 37 #[.val (.ref a1), .val (.int (3 : Int32))] [(.int (2 : Int32)), (.ref a1)])) rfl rfl (hb hby d17_37) _ kq_) ?_
  show Gl p e below _ (T1.setTop (mkF m 38 #[.val (.ref a1), .val (.int (3 : Int32))] [(.int y2)]))
  refine Gl.of (fun _ kq_ => XS.sipush X1.here hx rfl (hb hby d17_38) kq_) ?_
  show Gl p e below _ (T1.setTop (mkF m 41 #[.val (.ref a1), .val (.int (3 : Int32))] [(.int (255 : Int32)), (.int y2)]))
  refine Gl.of (fun _ kq_ => XS.iand X1.here hx rfl (hb hby d17_41) rfl kq_) ?_
  show Gl p e below _ (T1.setTop (mkF m 42 #[.val (.ref a1), .val (.int (3 : Int32))] [(.int (y2 &&& (255 : Int32)))]))
  obtain ⟨T3, X3, e3, st3⟩ := getS2 X1 hx hZ hown (host := "") (Or.inl (w97 hw)) Via.refl e1 (Sh.ext O0.2) (g := (mkF m 42 #[.val (.ref a1), .val (.int (3 : Int32))] [(.int (y2 &&& (255 : Int32)))])) rfl (hb hby d17_42)
  refine Gl.of st3 ?_
  show Gl p e below _ (T3.setTop (mkF m 45 #[.val (.ref a1), .val (.int (3 : Int32))] [(.int (0 : Int32)), (.int (y2 &&& (255 : Int32)))]))
  refine Gl.of (fun _ kq_ => XS.ishl X3.here hx rfl (hb hby d17_45) rfl kq_) ?_
  show Gl p e below _ (T3.setTop (mkF m 46 #[.val (.ref a1), .val (.int (3 : Int32))] [(.int ((y2 &&& (255 : Int32)) <<< ((0 : Int32) &&& 31)))]))
  refine Gl.of (fun _ kq_ => XS.aloadN X3.here hx rfl (hb hby d17_46) rfl rfl kq_) ?_
  show Gl p e below _ (T3.setTop (mkF m 47 #[.val (.ref a1), .val (.int (3 : Int32))] [(.ref a1), (.int ((y2 &&& (255 : Int32)) <<< ((0 : Int32) &&& 31)))]))
  refine Gl.of (fun _ kq_ => XS.iloadN X3.here hx rfl (hb hby d17_47) rfl kq_) ?_
  show Gl p e below _ (T3.setTop (mkF m 48 #[.val (.ref a1), .val (.int (3 : Int32))] [(.int (3 : Int32)), (.ref a1), (.int ((y2 &&& (255 : Int32)) <<< ((0 : Int32) &&& 31)))]))
  obtain ⟨zcl4, zAr4, zq4, zS4, zM4, zH4, zG4⟩ := id V1
  refine Gl.of (fun _ kq_ => X3.baloadBytes hx (j := (3 : Int32)) (v := (.int y3)) (by rw [e3]; exact (zAr4).1) (State.isArrayOf_alike hZ.alike (zAr4).2.1) (zAr4).2.2 (inb_of zS4 ⟨by decide, by decide⟩) (zH4 3 (by rw [zS4]; decide)) (g := (mkF m 48 #[.val (.ref a1), .val (.int (3 : Int32))] [(.int (3 : Int32)), (.ref a1), (.int ((y2 &&& (255 : Int32)) <<< ((0 : Int32) &&& 31)))])) rfl rfl (hb hby d17_48) _ kq_) ?_
  show Gl p e below _ (T3.setTop (mkF m 49 #[.val (.ref a1), .val (.int (3 : Int32))] [(.int y3), (.int ((y2 &&& (255 : Int32)) <<< ((0 : Int32) &&& 31)))]))
  refine Gl.of (fun _ kq_ => XS.sipush X3.here hx rfl (hb hby d17_49) kq_) ?_
  show Gl p e below _ (T3.setTop (mkF m 52 #[.val (.ref a1), .val (.int (3 : Int32))] [(.int (255 : Int32)), (.int y3), (.int ((y2 &&& (255 : Int32)) <<< ((0 : Int32) &&& 31)))]))
  refine Gl.of (fun _ kq_ => XS.iand X3.here hx rfl (hb hby d17_52) rfl kq_) ?_
  show Gl p e below _ (T3.setTop (mkF m 53 #[.val (.ref a1), .val (.int (3 : Int32))] [(.int (y3 &&& (255 : Int32))), (.int ((y2 &&& (255 : Int32)) <<< ((0 : Int32) &&& 31)))]))
  obtain ⟨T5, X5, e5, st5⟩ := getS2 X3 hx hZ hown (host := "") (Or.inl (w98 hw)) Via.refl e3 (Sl.ext O0.2) (g := (mkF m 53 #[.val (.ref a1), .val (.int (3 : Int32))] [(.int (y3 &&& (255 : Int32))), (.int ((y2 &&& (255 : Int32)) <<< ((0 : Int32) &&& 31)))])) rfl (hb hby d17_53)
  refine Gl.of st5 ?_
  show Gl p e below _ (T5.setTop (mkF m 56 #[.val (.ref a1), .val (.int (3 : Int32))] [(.int (8 : Int32)), (.int (y3 &&& (255 : Int32))), (.int ((y2 &&& (255 : Int32)) <<< ((0 : Int32) &&& 31)))]))
  refine Gl.of (fun _ kq_ => XS.ishl X5.here hx rfl (hb hby d17_56) rfl kq_) ?_
  show Gl p e below _ (T5.setTop (mkF m 57 #[.val (.ref a1), .val (.int (3 : Int32))] [(.int ((y3 &&& (255 : Int32)) <<< ((8 : Int32) &&& 31))), (.int ((y2 &&& (255 : Int32)) <<< ((0 : Int32) &&& 31)))]))
  refine Gl.of (fun _ kq_ => XS.ior X5.here hx rfl (hb hby d17_57) rfl kq_) ?_
  show Gl p e below _ (T5.setTop (mkF m 58 #[.val (.ref a1), .val (.int (3 : Int32))] [(.int (((y2 &&& (255 : Int32)) <<< ((0 : Int32) &&& 31)) ||| ((y3 &&& (255 : Int32)) <<< ((8 : Int32) &&& 31))))]))
  refine Gl.of (fun _ kq_ => XS.i2c X5.here hx rfl (hb hby d17_58) rfl kq_) ?_
  show Gl p e below _ (T5.setTop (mkF m 59 #[.val (.ref a1), .val (.int (3 : Int32))] [(.int ((((y2 &&& (255 : Int32)) <<< ((0 : Int32) &&& 31)) ||| ((y3 &&& (255 : Int32)) <<< ((8 : Int32) &&& 31))).toUInt32.toUInt16.toUInt32.toInt32))]))
  exact Gl.retN X5 hx hlk hret (by simp) (hb hby d17_59) e5 (⟨rfl, rfl, rfl⟩) (by decide) (by decide)
theorem ef_22 (m : MethodId) (x0 : Addr) (x1 : Int32) : entryFrame m #[(.ref x0), (.int x1)] 2 = mkF m 0 #[.val (.ref x0), .val (.int x1)] [] := by first | (simp [entryFrame, mkF, argsToLocals, Value.category, maxLocals]; done) | rfl
set_option maxRecDepth 65536 in
set_option maxHeartbeats 40000000 in
theorem rmG32 (l : Launch) (Z : State) (a0 : Array Value) (hw : ∀ d ∈ tables_1, d.before a0 Z = true) (h0 : Heap) (a1 : Addr) (kk1 : ClassId) (y0 y1 y2 y3 y4 y5 : Int32) (n0 : Nat) (V1 : Arv Z h0 a1 kk1 .byte (6 : Int32) [.int y0, .int y1, .int y2, .int y3, .int y4, .int y5] (.int 0)) (Sa : Sta Z Z.heap "java/lang/StringUTF16" "$assertionsDisabled" "Z" (.int 1)) (Sh : Sta Z Z.heap "java/lang/StringUTF16" "HI_BYTE_SHIFT" "I" (.int 0)) (Sl : Sta Z Z.heap "java/lang/StringUTF16" "LO_BYTE_SHIFT" "I" (.int 8)) (O0 : Old Z n0 h0) : Con l Z (⟨"java/lang/StringUTF16", "getChar", "([BI)C"⟩ : MethodName) jdk_52_method_5_code 2 (some .char) [] ({ frames := 0, cells := 0, slots := 0, locals := 0 } : Room) 0 0 #[(.ref a1), (.int (2 : Int32))] h0 (Pur (fun v => v = some (.int (own_gc y4 y5))) h0) := by
  refine Con.intro (plainFor_of_name pn_0) ?_
  intro p e s m below meth c s₁ X0 hx hby hml hZ hown hnm hret hlk e0 hs0
  refine Gl.of (fun _ kq_ => castTop (ef_22 m a1 (2 : Int32)) kq_) ?_
  show Gl p e below _ (s₁.setTop (mkF m 0 #[.val (.ref a1), .val (.int (2 : Int32))] []))
  obtain ⟨T1, X1, e1, st1⟩ := getS2 X0 hx hZ hown (host := "") (Or.inl (w96 hw)) Via.refl e0 (Sa.ext O0.2) (g := (mkF m 0 #[.val (.ref a1), .val (.int (2 : Int32))] [])) rfl (hb hby d17_0)
  refine Gl.of st1 ?_
  show Gl p e below _ (T1.setTop (mkF m 3 #[.val (.ref a1), .val (.int (2 : Int32))] [(.int (1 : Int32))]))
  refine Gl.of (fun _ kq_ => XS.ifYes X1.here hx rfl (pc0 := 3) (pc' := 28) rfl (hb hby d17_3) rfl ((if0 _ _).trans (feq (by decide : ¬ ((1 : Int32) = (0 : Int32)))).2) (by decide) (by decide) kq_) ?_
  show Gl p e below _ (T1.setTop (mkF m 28 #[.val (.ref a1), .val (.int (2 : Int32))] []))
  refine Gl.of (fun _ kq_ => XS.iloadN X1.here hx rfl (hb hby d17_28) rfl kq_) ?_
  show Gl p e below _ (T1.setTop (mkF m 29 #[.val (.ref a1), .val (.int (2 : Int32))] [(.int (2 : Int32))]))
  refine Gl.of (fun _ kq_ => XS.iconst X1.here hx rfl (hb hby d17_29) kq_) ?_
  show Gl p e below _ (T1.setTop (mkF m 30 #[.val (.ref a1), .val (.int (2 : Int32))] [(.int (1 : Int32)), (.int (2 : Int32))]))
  refine Gl.of (fun _ kq_ => XS.ishl X1.here hx rfl (hb hby d17_30) rfl kq_) ?_
  rw [show ((2 : Int32) <<< ((1 : Int32) &&& 31)) = (4 : Int32) from rfl]
  show Gl p e below _ (T1.setTop (mkF m 31 #[.val (.ref a1), .val (.int (2 : Int32))] [(.int (4 : Int32))]))
  refine Gl.of (fun _ kq_ => XS.istoreN X1.here hx rfl (hb hby d17_31) rfl (l' := #[.val (.ref a1), .val (.int (4 : Int32))]) rfl kq_) ?_
  show Gl p e below _ (T1.setTop (mkF m 32 #[.val (.ref a1), .val (.int (4 : Int32))] []))
  refine Gl.of (fun _ kq_ => XS.aloadN X1.here hx rfl (hb hby d17_32) rfl rfl kq_) ?_
  show Gl p e below _ (T1.setTop (mkF m 33 #[.val (.ref a1), .val (.int (4 : Int32))] [(.ref a1)]))
  refine Gl.of (fun _ kq_ => XS.iloadN X1.here hx rfl (hb hby d17_33) rfl kq_) ?_
  show Gl p e below _ (T1.setTop (mkF m 34 #[.val (.ref a1), .val (.int (4 : Int32))] [(.int (4 : Int32)), (.ref a1)]))
  refine Gl.of (fun _ kq_ => XS.iinc X1.here hx rfl (hb hby d17_34) rfl (l' := #[.val (.ref a1), .val (.int (5 : Int32))]) rfl kq_) ?_
  show Gl p e below _ (T1.setTop (mkF m 37 #[.val (.ref a1), .val (.int (5 : Int32))] [(.int (4 : Int32)), (.ref a1)]))
  obtain ⟨zcl2, zAr2, zq2, zS2, zM2, zH2, zG2⟩ := id V1
  refine Gl.of (fun _ kq_ => X1.baloadBytes hx (j := (4 : Int32)) (v := (.int y4)) (by rw [e1]; exact (zAr2).1) (State.isArrayOf_alike hZ.alike (zAr2).2.1) (zAr2).2.2 (inb_of zS2 ⟨by decide, by decide⟩) (zH2 4 (by rw [zS2]; decide)) (g := (mkF m 37 #[.val (.ref a1), .val (.int (5 : Int32))] [(.int (4 : Int32)), (.ref a1)])) rfl rfl (hb hby d17_37) _ kq_) ?_
  show Gl p e below _ (T1.setTop (mkF m 38 #[.val (.ref a1), .val (.int (5 : Int32))] [(.int y4)]))
  refine Gl.of (fun _ kq_ => XS.sipush X1.here hx rfl (hb hby d17_38) kq_) ?_
  show Gl p e below _ (T1.setTop (mkF m 41 #[.val (.ref a1), .val (.int (5 : Int32))] [(.int (255 : Int32)), (.int y4)]))
  refine Gl.of (fun _ kq_ => XS.iand X1.here hx rfl (hb hby d17_41) rfl kq_) ?_
  show Gl p e below _ (T1.setTop (mkF m 42 #[.val (.ref a1), .val (.int (5 : Int32))] [(.int (y4 &&& (255 : Int32)))]))
  obtain ⟨T3, X3, e3, st3⟩ := getS2 X1 hx hZ hown (host := "") (Or.inl (w97 hw)) Via.refl e1 (Sh.ext O0.2) (g := (mkF m 42 #[.val (.ref a1), .val (.int (5 : Int32))] [(.int (y4 &&& (255 : Int32)))])) rfl (hb hby d17_42)
  refine Gl.of st3 ?_
  show Gl p e below _ (T3.setTop (mkF m 45 #[.val (.ref a1), .val (.int (5 : Int32))] [(.int (0 : Int32)), (.int (y4 &&& (255 : Int32)))]))
  refine Gl.of (fun _ kq_ => XS.ishl X3.here hx rfl (hb hby d17_45) rfl kq_) ?_
  show Gl p e below _ (T3.setTop (mkF m 46 #[.val (.ref a1), .val (.int (5 : Int32))] [(.int ((y4 &&& (255 : Int32)) <<< ((0 : Int32) &&& 31)))]))
  refine Gl.of (fun _ kq_ => XS.aloadN X3.here hx rfl (hb hby d17_46) rfl rfl kq_) ?_
  show Gl p e below _ (T3.setTop (mkF m 47 #[.val (.ref a1), .val (.int (5 : Int32))] [(.ref a1), (.int ((y4 &&& (255 : Int32)) <<< ((0 : Int32) &&& 31)))]))
  refine Gl.of (fun _ kq_ => XS.iloadN X3.here hx rfl (hb hby d17_47) rfl kq_) ?_
  show Gl p e below _ (T3.setTop (mkF m 48 #[.val (.ref a1), .val (.int (5 : Int32))] [(.int (5 : Int32)), (.ref a1), (.int ((y4 &&& (255 : Int32)) <<< ((0 : Int32) &&& 31)))]))
  obtain ⟨zcl4, zAr4, zq4, zS4, zM4, zH4, zG4⟩ := id V1
  refine Gl.of (fun _ kq_ => X3.baloadBytes hx (j := (5 : Int32)) (v := (.int y5)) (by rw [e3]; exact (zAr4).1) (State.isArrayOf_alike hZ.alike (zAr4).2.1) (zAr4).2.2 (inb_of zS4 ⟨by decide, by decide⟩) (zH4 5 (by rw [zS4]; decide)) (g := (mkF m 48 #[.val (.ref a1), .val (.int (5 : Int32))] [(.int (5 : Int32)), (.ref a1), (.int ((y4 &&& (255 : Int32)) <<< ((0 : Int32) &&& 31)))])) rfl rfl (hb hby d17_48) _ kq_) ?_
  show Gl p e below _ (T3.setTop (mkF m 49 #[.val (.ref a1), .val (.int (5 : Int32))] [(.int y5), (.int ((y4 &&& (255 : Int32)) <<< ((0 : Int32) &&& 31)))]))
  refine Gl.of (fun _ kq_ => XS.sipush X3.here hx rfl (hb hby d17_49) kq_) ?_
  show Gl p e below _ (T3.setTop (mkF m 52 #[.val (.ref a1), .val (.int (5 : Int32))] [(.int (255 : Int32)), (.int y5), (.int ((y4 &&& (255 : Int32)) <<< ((0 : Int32) &&& 31)))]))
  refine Gl.of (fun _ kq_ => XS.iand X3.here hx rfl (hb hby d17_52) rfl kq_) ?_
  show Gl p e below _ (T3.setTop (mkF m 53 #[.val (.ref a1), .val (.int (5 : Int32))] [(.int (y5 &&& (255 : Int32))), (.int ((y4 &&& (255 : Int32)) <<< ((0 : Int32) &&& 31)))]))
  obtain ⟨T5, X5, e5, st5⟩ := getS2 X3 hx hZ hown (host := "") (Or.inl (w98 hw)) Via.refl e3 (Sl.ext O0.2) (g := (mkF m 53 #[.val (.ref a1), .val (.int (5 : Int32))] [(.int (y5 &&& (255 : Int32))), (.int ((y4 &&& (255 : Int32)) <<< ((0 : Int32) &&& 31)))])) rfl (hb hby d17_53)
  refine Gl.of st5 ?_
  show Gl p e below _ (T5.setTop (mkF m 56 #[.val (.ref a1), .val (.int (5 : Int32))] [(.int (8 : Int32)), (.int (y5 &&& (255 : Int32))), (.int ((y4 &&& (255 : Int32)) <<< ((0 : Int32) &&& 31)))]))
  refine Gl.of (fun _ kq_ => XS.ishl X5.here hx rfl (hb hby d17_56) rfl kq_) ?_
  show Gl p e below _ (T5.setTop (mkF m 57 #[.val (.ref a1), .val (.int (5 : Int32))] [(.int ((y5 &&& (255 : Int32)) <<< ((8 : Int32) &&& 31))), (.int ((y4 &&& (255 : Int32)) <<< ((0 : Int32) &&& 31)))]))
  refine Gl.of (fun _ kq_ => XS.ior X5.here hx rfl (hb hby d17_57) rfl kq_) ?_
  show Gl p e below _ (T5.setTop (mkF m 58 #[.val (.ref a1), .val (.int (5 : Int32))] [(.int (((y4 &&& (255 : Int32)) <<< ((0 : Int32) &&& 31)) ||| ((y5 &&& (255 : Int32)) <<< ((8 : Int32) &&& 31))))]))
  refine Gl.of (fun _ kq_ => XS.i2c X5.here hx rfl (hb hby d17_58) rfl kq_) ?_
  show Gl p e below _ (T5.setTop (mkF m 59 #[.val (.ref a1), .val (.int (5 : Int32))] [(.int ((((y4 &&& (255 : Int32)) <<< ((0 : Int32) &&& 31)) ||| ((y5 &&& (255 : Int32)) <<< ((8 : Int32) &&& 31))).toUInt32.toUInt16.toUInt32.toInt32))]))
  exact Gl.retN X5 hx hlk hret (by simp) (hb hby d17_59) e5 (⟨rfl, rfl, rfl⟩) (by decide) (by decide)
theorem ef_23 (m : MethodId) (x0 : Addr) (x1 : Int32) (x2 : Addr) (x3 : Int32) (x4 : Int32) : entryFrame m #[(.ref x0), (.int x1), (.ref x2), (.int x3), (.int x4)] 7 = mkF m 0 #[.val (.ref x0), .val (.int x1), .val (.ref x2), .val (.int x3), .val (.int x4), .unset, .unset] [] := by first | (simp [entryFrame, mkF, argsToLocals, Value.category, maxLocals]; done) | rfl
set_option maxRecDepth 65536 in
set_option maxHeartbeats 40000000 in
theorem rmK3 (l : Launch) (Z : State) (a0 : Array Value) (hw : ∀ d ∈ tables_1, d.before a0 Z = true) (h0 : Heap) (a1 a2 : Addr) (kk1 kk2 : ClassId) (c0 c1 c2 : Int32) (n0 : Nat) (V1 : Arv Z h0 a1 kk1 .char (3 : Int32) [.int c0, .int c1, .int c2] (.int 0)) (V2 : Arv Z h0 a2 kk2 .byte (3 : Int32) [.int (0 : Int32), .int (0 : Int32), .int (0 : Int32)] (.int 0)) (hne : ¬ a1 = a2) (Ga2 : n0 ≤ a2) (O0 : Old Z n0 h0) : Con l Z (⟨"java/lang/StringUTF16", "compress", "([CI[BII)I"⟩ : MethodName) jdk_52_method_21_code 7 (some .int) [] ({ frames := 0, cells := 0, slots := 0, locals := 0 } : Room) 0 0 #[(.ref a1), (.int (0 : Int32)), (.ref a2), (.int (0 : Int32)), (.int (3 : Int32))] h0 (fun v h L => ∃ r vs, v = some (.int r) ∧ Fr n0 L ∧ Keep h0 h [a2] ∧ Arv Z h a2 kk2 .byte (3 : Int32) vs (.int 0) ∧ (r = (3 : Int32) ∨ (r = (0 : Int32) ∧ (255 : Int32) < c0) ∨ (r = (1 : Int32) ∧ (255 : Int32) < c1) ∨ (r = (2 : Int32) ∧ (255 : Int32) < c2))) := by
  refine Con.intro (plainFor_of_name pn_0) ?_
  intro p e s m below meth c s₁ X0 hx hby hml hZ hown hnm hret hlk e0 hs0
  refine Gl.of (fun _ kq_ => castTop (ef_23 m a1 (0 : Int32) a2 (0 : Int32) (3 : Int32)) kq_) ?_
  have K0 := Keep.refl h0 [a2]
  show Gl p e below _ (s₁.setTop (mkF m 0 #[.val (.ref a1), .val (.int (0 : Int32)), .val (.ref a2), .val (.int (0 : Int32)), .val (.int (3 : Int32)), .unset, .unset] []))
  refine Gl.of (fun _ kq_ => XS.iconst X0.here hx rfl (hb hby d12_0) kq_) ?_
  show Gl p e below _ (s₁.setTop (mkF m 1 #[.val (.ref a1), .val (.int (0 : Int32)), .val (.ref a2), .val (.int (0 : Int32)), .val (.int (3 : Int32)), .unset, .unset] [(.int (0 : Int32))]))
  refine Gl.of (fun _ kq_ => XS.istore X0.here hx rfl (hb hby d12_1) rfl (l' := #[.val (.ref a1), .val (.int (0 : Int32)), .val (.ref a2), .val (.int (0 : Int32)), .val (.int (3 : Int32)), .val (.int (0 : Int32)), .unset]) rfl kq_) ?_
  show Gl p e below _ (s₁.setTop (mkF m 3 #[.val (.ref a1), .val (.int (0 : Int32)), .val (.ref a2), .val (.int (0 : Int32)), .val (.int (3 : Int32)), .val (.int (0 : Int32)), .unset] []))
  refine Gl.of (fun _ kq_ => XS.iload X0.here hx rfl (hb hby d12_3) rfl kq_) ?_
  show Gl p e below _ (s₁.setTop (mkF m 5 #[.val (.ref a1), .val (.int (0 : Int32)), .val (.ref a2), .val (.int (0 : Int32)), .val (.int (3 : Int32)), .val (.int (0 : Int32)), .unset] [(.int (0 : Int32))]))
  refine Gl.of (fun _ kq_ => XS.iload X0.here hx rfl (hb hby d12_5) rfl kq_) ?_
  show Gl p e below _ (s₁.setTop (mkF m 7 #[.val (.ref a1), .val (.int (0 : Int32)), .val (.ref a2), .val (.int (0 : Int32)), .val (.int (3 : Int32)), .val (.int (0 : Int32)), .unset] [(.int (3 : Int32)), (.int (0 : Int32))]))
  refine Gl.of (fun _ kq_ => XS.icmpNo X0.here hx rfl (hb hby d12_7) rfl (tlt (by decide : (0 : Int32) < (3 : Int32))).2.1 kq_) ?_
  show Gl p e below _ (s₁.setTop (mkF m 10 #[.val (.ref a1), .val (.int (0 : Int32)), .val (.ref a2), .val (.int (0 : Int32)), .val (.int (3 : Int32)), .val (.int (0 : Int32)), .unset] []))
  refine Gl.of (fun _ kq_ => XS.aloadN X0.here hx rfl (hb hby d12_10) rfl rfl kq_) ?_
  show Gl p e below _ (s₁.setTop (mkF m 11 #[.val (.ref a1), .val (.int (0 : Int32)), .val (.ref a2), .val (.int (0 : Int32)), .val (.int (3 : Int32)), .val (.int (0 : Int32)), .unset] [(.ref a1)]))
  refine Gl.of (fun _ kq_ => XS.iloadN X0.here hx rfl (hb hby d12_11) rfl kq_) ?_
  show Gl p e below _ (s₁.setTop (mkF m 12 #[.val (.ref a1), .val (.int (0 : Int32)), .val (.ref a2), .val (.int (0 : Int32)), .val (.int (3 : Int32)), .val (.int (0 : Int32)), .unset] [(.int (0 : Int32)), (.ref a1)]))
  obtain ⟨zcl1, zAr1, zq1, zS1, zM1, zH1, zG1⟩ := id V1
  refine Gl.of (fun _ kq_ => X0.caload hx (j := (0 : Int32)) (v := (.int c0)) (by rw [e0]; exact (zAr1).1) (State.isArrayOf_alike hZ.alike (zAr1).2.1) (zAr1).2.2 (inb_of zS1 ⟨by decide, by decide⟩) (zH1 0 (by rw [zS1]; decide)) (g := (mkF m 12 #[.val (.ref a1), .val (.int (0 : Int32)), .val (.ref a2), .val (.int (0 : Int32)), .val (.int (3 : Int32)), .val (.int (0 : Int32)), .unset] [(.int (0 : Int32)), (.ref a1)])) rfl rfl (hb hby d12_12) _ kq_) ?_
  show Gl p e below _ (s₁.setTop (mkF m 13 #[.val (.ref a1), .val (.int (0 : Int32)), .val (.ref a2), .val (.int (0 : Int32)), .val (.int (3 : Int32)), .val (.int (0 : Int32)), .unset] [(.int c0)]))
  refine Gl.of (fun _ kq_ => XS.istore X0.here hx rfl (hb hby d12_13) rfl (l' := #[.val (.ref a1), .val (.int (0 : Int32)), .val (.ref a2), .val (.int (0 : Int32)), .val (.int (3 : Int32)), .val (.int (0 : Int32)), .val (.int c0)]) rfl kq_) ?_
  show Gl p e below _ (s₁.setTop (mkF m 15 #[.val (.ref a1), .val (.int (0 : Int32)), .val (.ref a2), .val (.int (0 : Int32)), .val (.int (3 : Int32)), .val (.int (0 : Int32)), .val (.int c0)] []))
  refine Gl.of (fun _ kq_ => XS.iload X0.here hx rfl (hb hby d12_15) rfl kq_) ?_
  show Gl p e below _ (s₁.setTop (mkF m 17 #[.val (.ref a1), .val (.int (0 : Int32)), .val (.ref a2), .val (.int (0 : Int32)), .val (.int (3 : Int32)), .val (.int (0 : Int32)), .val (.int c0)] [(.int c0)]))
  refine Gl.of (fun _ kq_ => XS.sipush X0.here hx rfl (hb hby d12_17) kq_) ?_
  show Gl p e below _ (s₁.setTop (mkF m 20 #[.val (.ref a1), .val (.int (0 : Int32)), .val (.ref a2), .val (.int (0 : Int32)), .val (.int (3 : Int32)), .val (.int (0 : Int32)), .val (.int c0)] [(.int (255 : Int32)), (.int c0)]))
  by_cases hc20_2 : (255 : Int32) < c0
  · refine Gl.of (fun _ kq_ => XS.icmpNo X0.here hx rfl (hb hby d12_20) rfl (tlt hc20_2).2.2.2 kq_) ?_
    show Gl p e below _ (s₁.setTop (mkF m 23 #[.val (.ref a1), .val (.int (0 : Int32)), .val (.ref a2), .val (.int (0 : Int32)), .val (.int (3 : Int32)), .val (.int (0 : Int32)), .val (.int c0)] []))
    refine Gl.of (fun _ kq_ => XS.iload X0.here hx rfl (hb hby d12_23) rfl kq_) ?_
    show Gl p e below _ (s₁.setTop (mkF m 25 #[.val (.ref a1), .val (.int (0 : Int32)), .val (.ref a2), .val (.int (0 : Int32)), .val (.int (3 : Int32)), .val (.int (0 : Int32)), .val (.int c0)] [(.int (0 : Int32))]))
    exact Gl.retI X0 hx hlk hret (hb hby d12_25) e0 (⟨_, _, rfl, (Fr.nil n0), K0, V2, Or.inr (Or.inl ⟨rfl, hc20_2⟩)⟩) (by decide) (by decide)
  · refine Gl.of (fun _ kq_ => XS.icmpYes X0.here hx rfl (pc0 := 20) (pc' := 26) rfl (hb hby d12_20) rfl (flt hc20_2).2.2.2 (by decide) (by decide) kq_) ?_
    show Gl p e below _ (s₁.setTop (mkF m 26 #[.val (.ref a1), .val (.int (0 : Int32)), .val (.ref a2), .val (.int (0 : Int32)), .val (.int (3 : Int32)), .val (.int (0 : Int32)), .val (.int c0)] []))
    refine Gl.of (fun _ kq_ => XS.aloadN X0.here hx rfl (hb hby d12_26) rfl rfl kq_) ?_
    show Gl p e below _ (s₁.setTop (mkF m 27 #[.val (.ref a1), .val (.int (0 : Int32)), .val (.ref a2), .val (.int (0 : Int32)), .val (.int (3 : Int32)), .val (.int (0 : Int32)), .val (.int c0)] [(.ref a2)]))
    refine Gl.of (fun _ kq_ => XS.iloadN X0.here hx rfl (hb hby d12_27) rfl kq_) ?_
    show Gl p e below _ (s₁.setTop (mkF m 28 #[.val (.ref a1), .val (.int (0 : Int32)), .val (.ref a2), .val (.int (0 : Int32)), .val (.int (3 : Int32)), .val (.int (0 : Int32)), .val (.int c0)] [(.int (0 : Int32)), (.ref a2)]))
    refine Gl.of (fun _ kq_ => XS.iload X0.here hx rfl (hb hby d12_28) rfl kq_) ?_
    show Gl p e below _ (s₁.setTop (mkF m 30 #[.val (.ref a1), .val (.int (0 : Int32)), .val (.ref a2), .val (.int (0 : Int32)), .val (.int (3 : Int32)), .val (.int (0 : Int32)), .val (.int c0)] [(.int c0), (.int (0 : Int32)), (.ref a2)]))
    refine Gl.of (fun _ kq_ => XS.i2b X0.here hx rfl (hb hby d12_30) rfl kq_) ?_
    show Gl p e below _ (s₁.setTop (mkF m 31 #[.val (.ref a1), .val (.int (0 : Int32)), .val (.ref a2), .val (.int (0 : Int32)), .val (.int (3 : Int32)), .val (.int (0 : Int32)), .val (.int c0)] [(.int (c0.toInt8.toInt32)), (.int (0 : Int32)), (.ref a2)]))
    obtain ⟨zcl3, zAr3, zq3, zS3, zM3, zH3, zG3⟩ := id V2
    obtain ⟨T4, h4, X4, e4, W4, st4⟩ := stB X0 hx hZ e0 zAr3 (j := (0 : Int32)) (inb_of zS3 ⟨by decide, by decide⟩) (g := (mkF m 31 #[.val (.ref a1), .val (.int (0 : Int32)), .val (.ref a2), .val (.int (0 : Int32)), .val (.int (3 : Int32)), .val (.int (0 : Int32)), .val (.int c0)] [(.int (c0.toInt8.toInt32)), (.int (0 : Int32)), (.ref a2)])) rfl rfl (hb hby d12_31)
    refine Gl.of st4 ?_
    have V4 : Arv Z h4 a2 kk2 .byte (3 : Int32) [(.int (nar .byte (c0.toInt8.toInt32))), (.int (0 : Int32)), (.int (0 : Int32))] (.int 0) := Arv.set zAr3 zq3 zS3 zM3 zH3 zG3 (fits_nar_byte _) W4 0 rfl (Nat.le_of_ble_eq_true rfl)
    have vc5 := V1.other W4 hne
    have N4 := Fr.snoc X4 (Fr.nil n0) Ga2
    have O4 := O0.wr W4 Ga2
    have K4 := K0.wr W4 (Or.inl (List.mem_of_getElem? (i := 0) rfl))
    show Gl p e below _ (T4.setTop (mkF m 32 #[.val (.ref a1), .val (.int (0 : Int32)), .val (.ref a2), .val (.int (0 : Int32)), .val (.int (3 : Int32)), .val (.int (0 : Int32)), .val (.int c0)] []))
    refine Gl.of (fun _ kq_ => XS.iinc X4.here hx rfl (hb hby d12_32) rfl (l' := #[.val (.ref a1), .val (.int (1 : Int32)), .val (.ref a2), .val (.int (0 : Int32)), .val (.int (3 : Int32)), .val (.int (0 : Int32)), .val (.int c0)]) rfl kq_) ?_
    show Gl p e below _ (T4.setTop (mkF m 35 #[.val (.ref a1), .val (.int (1 : Int32)), .val (.ref a2), .val (.int (0 : Int32)), .val (.int (3 : Int32)), .val (.int (0 : Int32)), .val (.int c0)] []))
    refine Gl.of (fun _ kq_ => XS.iinc X4.here hx rfl (hb hby d12_35) rfl (l' := #[.val (.ref a1), .val (.int (1 : Int32)), .val (.ref a2), .val (.int (1 : Int32)), .val (.int (3 : Int32)), .val (.int (0 : Int32)), .val (.int c0)]) rfl kq_) ?_
    show Gl p e below _ (T4.setTop (mkF m 38 #[.val (.ref a1), .val (.int (1 : Int32)), .val (.ref a2), .val (.int (1 : Int32)), .val (.int (3 : Int32)), .val (.int (0 : Int32)), .val (.int c0)] []))
    refine Gl.of (fun _ kq_ => XS.iinc X4.here hx rfl (hb hby d12_38) rfl (l' := #[.val (.ref a1), .val (.int (1 : Int32)), .val (.ref a2), .val (.int (1 : Int32)), .val (.int (3 : Int32)), .val (.int (1 : Int32)), .val (.int c0)]) rfl kq_) ?_
    show Gl p e below _ (T4.setTop (mkF m 41 #[.val (.ref a1), .val (.int (1 : Int32)), .val (.ref a2), .val (.int (1 : Int32)), .val (.int (3 : Int32)), .val (.int (1 : Int32)), .val (.int c0)] []))
    refine Gl.of (fun _ kq_ => XS.goto X4.here hx rfl (pc0 := 41) (pc' := 3) rfl (hb hby d12_41) (by decide) (by decide) kq_) ?_
    show Gl p e below _ (T4.setTop (mkF m 3 #[.val (.ref a1), .val (.int (1 : Int32)), .val (.ref a2), .val (.int (1 : Int32)), .val (.int (3 : Int32)), .val (.int (1 : Int32)), .val (.int c0)] []))
    refine Gl.of (fun _ kq_ => XS.iload X4.here hx rfl (hb hby d12_3) rfl kq_) ?_
    show Gl p e below _ (T4.setTop (mkF m 5 #[.val (.ref a1), .val (.int (1 : Int32)), .val (.ref a2), .val (.int (1 : Int32)), .val (.int (3 : Int32)), .val (.int (1 : Int32)), .val (.int c0)] [(.int (1 : Int32))]))
    refine Gl.of (fun _ kq_ => XS.iload X4.here hx rfl (hb hby d12_5) rfl kq_) ?_
    show Gl p e below _ (T4.setTop (mkF m 7 #[.val (.ref a1), .val (.int (1 : Int32)), .val (.ref a2), .val (.int (1 : Int32)), .val (.int (3 : Int32)), .val (.int (1 : Int32)), .val (.int c0)] [(.int (3 : Int32)), (.int (1 : Int32))]))
    refine Gl.of (fun _ kq_ => XS.icmpNo X4.here hx rfl (hb hby d12_7) rfl (tlt (by decide : (1 : Int32) < (3 : Int32))).2.1 kq_) ?_
    show Gl p e below _ (T4.setTop (mkF m 10 #[.val (.ref a1), .val (.int (1 : Int32)), .val (.ref a2), .val (.int (1 : Int32)), .val (.int (3 : Int32)), .val (.int (1 : Int32)), .val (.int c0)] []))
    refine Gl.of (fun _ kq_ => XS.aloadN X4.here hx rfl (hb hby d12_10) rfl rfl kq_) ?_
    show Gl p e below _ (T4.setTop (mkF m 11 #[.val (.ref a1), .val (.int (1 : Int32)), .val (.ref a2), .val (.int (1 : Int32)), .val (.int (3 : Int32)), .val (.int (1 : Int32)), .val (.int c0)] [(.ref a1)]))
    refine Gl.of (fun _ kq_ => XS.iloadN X4.here hx rfl (hb hby d12_11) rfl kq_) ?_
    show Gl p e below _ (T4.setTop (mkF m 12 #[.val (.ref a1), .val (.int (1 : Int32)), .val (.ref a2), .val (.int (1 : Int32)), .val (.int (3 : Int32)), .val (.int (1 : Int32)), .val (.int c0)] [(.int (1 : Int32)), (.ref a1)]))
    obtain ⟨zcl6, zAr6, zq6, zS6, zM6, zH6, zG6⟩ := id vc5
    refine Gl.of (fun _ kq_ => X4.caload hx (j := (1 : Int32)) (v := (.int c1)) (by rw [e4]; exact (zAr6).1) (State.isArrayOf_alike hZ.alike (zAr6).2.1) (zAr6).2.2 (inb_of zS6 ⟨by decide, by decide⟩) (zH6 1 (by rw [zS6]; decide)) (g := (mkF m 12 #[.val (.ref a1), .val (.int (1 : Int32)), .val (.ref a2), .val (.int (1 : Int32)), .val (.int (3 : Int32)), .val (.int (1 : Int32)), .val (.int c0)] [(.int (1 : Int32)), (.ref a1)])) rfl rfl (hb hby d12_12) _ kq_) ?_
    show Gl p e below _ (T4.setTop (mkF m 13 #[.val (.ref a1), .val (.int (1 : Int32)), .val (.ref a2), .val (.int (1 : Int32)), .val (.int (3 : Int32)), .val (.int (1 : Int32)), .val (.int c0)] [(.int c1)]))
    refine Gl.of (fun _ kq_ => XS.istore X4.here hx rfl (hb hby d12_13) rfl (l' := #[.val (.ref a1), .val (.int (1 : Int32)), .val (.ref a2), .val (.int (1 : Int32)), .val (.int (3 : Int32)), .val (.int (1 : Int32)), .val (.int c1)]) rfl kq_) ?_
    show Gl p e below _ (T4.setTop (mkF m 15 #[.val (.ref a1), .val (.int (1 : Int32)), .val (.ref a2), .val (.int (1 : Int32)), .val (.int (3 : Int32)), .val (.int (1 : Int32)), .val (.int c1)] []))
    refine Gl.of (fun _ kq_ => XS.iload X4.here hx rfl (hb hby d12_15) rfl kq_) ?_
    show Gl p e below _ (T4.setTop (mkF m 17 #[.val (.ref a1), .val (.int (1 : Int32)), .val (.ref a2), .val (.int (1 : Int32)), .val (.int (3 : Int32)), .val (.int (1 : Int32)), .val (.int c1)] [(.int c1)]))
    refine Gl.of (fun _ kq_ => XS.sipush X4.here hx rfl (hb hby d12_17) kq_) ?_
    show Gl p e below _ (T4.setTop (mkF m 20 #[.val (.ref a1), .val (.int (1 : Int32)), .val (.ref a2), .val (.int (1 : Int32)), .val (.int (3 : Int32)), .val (.int (1 : Int32)), .val (.int c1)] [(.int (255 : Int32)), (.int c1)]))
    by_cases hc20_7 : (255 : Int32) < c1
    · refine Gl.of (fun _ kq_ => XS.icmpNo X4.here hx rfl (hb hby d12_20) rfl (tlt hc20_7).2.2.2 kq_) ?_
      show Gl p e below _ (T4.setTop (mkF m 23 #[.val (.ref a1), .val (.int (1 : Int32)), .val (.ref a2), .val (.int (1 : Int32)), .val (.int (3 : Int32)), .val (.int (1 : Int32)), .val (.int c1)] []))
      refine Gl.of (fun _ kq_ => XS.iload X4.here hx rfl (hb hby d12_23) rfl kq_) ?_
      show Gl p e below _ (T4.setTop (mkF m 25 #[.val (.ref a1), .val (.int (1 : Int32)), .val (.ref a2), .val (.int (1 : Int32)), .val (.int (3 : Int32)), .val (.int (1 : Int32)), .val (.int c1)] [(.int (1 : Int32))]))
      exact Gl.retI X4 hx hlk hret (hb hby d12_25) e4 (⟨_, _, rfl, N4, K4, V4, Or.inr (Or.inr (Or.inl ⟨rfl, hc20_7⟩))⟩) (by decide) (by decide)
    · refine Gl.of (fun _ kq_ => XS.icmpYes X4.here hx rfl (pc0 := 20) (pc' := 26) rfl (hb hby d12_20) rfl (flt hc20_7).2.2.2 (by decide) (by decide) kq_) ?_
      show Gl p e below _ (T4.setTop (mkF m 26 #[.val (.ref a1), .val (.int (1 : Int32)), .val (.ref a2), .val (.int (1 : Int32)), .val (.int (3 : Int32)), .val (.int (1 : Int32)), .val (.int c1)] []))
      refine Gl.of (fun _ kq_ => XS.aloadN X4.here hx rfl (hb hby d12_26) rfl rfl kq_) ?_
      show Gl p e below _ (T4.setTop (mkF m 27 #[.val (.ref a1), .val (.int (1 : Int32)), .val (.ref a2), .val (.int (1 : Int32)), .val (.int (3 : Int32)), .val (.int (1 : Int32)), .val (.int c1)] [(.ref a2)]))
      refine Gl.of (fun _ kq_ => XS.iloadN X4.here hx rfl (hb hby d12_27) rfl kq_) ?_
      show Gl p e below _ (T4.setTop (mkF m 28 #[.val (.ref a1), .val (.int (1 : Int32)), .val (.ref a2), .val (.int (1 : Int32)), .val (.int (3 : Int32)), .val (.int (1 : Int32)), .val (.int c1)] [(.int (1 : Int32)), (.ref a2)]))
      refine Gl.of (fun _ kq_ => XS.iload X4.here hx rfl (hb hby d12_28) rfl kq_) ?_
      show Gl p e below _ (T4.setTop (mkF m 30 #[.val (.ref a1), .val (.int (1 : Int32)), .val (.ref a2), .val (.int (1 : Int32)), .val (.int (3 : Int32)), .val (.int (1 : Int32)), .val (.int c1)] [(.int c1), (.int (1 : Int32)), (.ref a2)]))
      refine Gl.of (fun _ kq_ => XS.i2b X4.here hx rfl (hb hby d12_30) rfl kq_) ?_
      show Gl p e below _ (T4.setTop (mkF m 31 #[.val (.ref a1), .val (.int (1 : Int32)), .val (.ref a2), .val (.int (1 : Int32)), .val (.int (3 : Int32)), .val (.int (1 : Int32)), .val (.int c1)] [(.int (c1.toInt8.toInt32)), (.int (1 : Int32)), (.ref a2)]))
      obtain ⟨zcl8, zAr8, zq8, zS8, zM8, zH8, zG8⟩ := id V4
      obtain ⟨T9, h9, X9, e9, W9, st9⟩ := stB X4 hx hZ e4 zAr8 (j := (1 : Int32)) (inb_of zS8 ⟨by decide, by decide⟩) (g := (mkF m 31 #[.val (.ref a1), .val (.int (1 : Int32)), .val (.ref a2), .val (.int (1 : Int32)), .val (.int (3 : Int32)), .val (.int (1 : Int32)), .val (.int c1)] [(.int (c1.toInt8.toInt32)), (.int (1 : Int32)), (.ref a2)])) rfl rfl (hb hby d12_31)
      refine Gl.of st9 ?_
      have V9 : Arv Z h9 a2 kk2 .byte (3 : Int32) [(.int (nar .byte (c0.toInt8.toInt32))), (.int (nar .byte (c1.toInt8.toInt32))), (.int (0 : Int32))] (.int 0) := Arv.set zAr8 zq8 zS8 zM8 zH8 zG8 (fits_nar_byte _) W9 1 rfl (Nat.le_of_ble_eq_true rfl)
      have vc10 := vc5.other W9 hne
      have N9 := Fr.snoc X9 N4 Ga2
      have O9 := O4.wr W9 Ga2
      have K9 := K4.wr W9 (Or.inl (List.mem_of_getElem? (i := 0) rfl))
      show Gl p e below _ (T9.setTop (mkF m 32 #[.val (.ref a1), .val (.int (1 : Int32)), .val (.ref a2), .val (.int (1 : Int32)), .val (.int (3 : Int32)), .val (.int (1 : Int32)), .val (.int c1)] []))
      refine Gl.of (fun _ kq_ => XS.iinc X9.here hx rfl (hb hby d12_32) rfl (l' := #[.val (.ref a1), .val (.int (2 : Int32)), .val (.ref a2), .val (.int (1 : Int32)), .val (.int (3 : Int32)), .val (.int (1 : Int32)), .val (.int c1)]) rfl kq_) ?_
      show Gl p e below _ (T9.setTop (mkF m 35 #[.val (.ref a1), .val (.int (2 : Int32)), .val (.ref a2), .val (.int (1 : Int32)), .val (.int (3 : Int32)), .val (.int (1 : Int32)), .val (.int c1)] []))
      refine Gl.of (fun _ kq_ => XS.iinc X9.here hx rfl (hb hby d12_35) rfl (l' := #[.val (.ref a1), .val (.int (2 : Int32)), .val (.ref a2), .val (.int (2 : Int32)), .val (.int (3 : Int32)), .val (.int (1 : Int32)), .val (.int c1)]) rfl kq_) ?_
      show Gl p e below _ (T9.setTop (mkF m 38 #[.val (.ref a1), .val (.int (2 : Int32)), .val (.ref a2), .val (.int (2 : Int32)), .val (.int (3 : Int32)), .val (.int (1 : Int32)), .val (.int c1)] []))
      refine Gl.of (fun _ kq_ => XS.iinc X9.here hx rfl (hb hby d12_38) rfl (l' := #[.val (.ref a1), .val (.int (2 : Int32)), .val (.ref a2), .val (.int (2 : Int32)), .val (.int (3 : Int32)), .val (.int (2 : Int32)), .val (.int c1)]) rfl kq_) ?_
      show Gl p e below _ (T9.setTop (mkF m 41 #[.val (.ref a1), .val (.int (2 : Int32)), .val (.ref a2), .val (.int (2 : Int32)), .val (.int (3 : Int32)), .val (.int (2 : Int32)), .val (.int c1)] []))
      refine Gl.of (fun _ kq_ => XS.goto X9.here hx rfl (pc0 := 41) (pc' := 3) rfl (hb hby d12_41) (by decide) (by decide) kq_) ?_
      show Gl p e below _ (T9.setTop (mkF m 3 #[.val (.ref a1), .val (.int (2 : Int32)), .val (.ref a2), .val (.int (2 : Int32)), .val (.int (3 : Int32)), .val (.int (2 : Int32)), .val (.int c1)] []))
      refine Gl.of (fun _ kq_ => XS.iload X9.here hx rfl (hb hby d12_3) rfl kq_) ?_
      show Gl p e below _ (T9.setTop (mkF m 5 #[.val (.ref a1), .val (.int (2 : Int32)), .val (.ref a2), .val (.int (2 : Int32)), .val (.int (3 : Int32)), .val (.int (2 : Int32)), .val (.int c1)] [(.int (2 : Int32))]))
      refine Gl.of (fun _ kq_ => XS.iload X9.here hx rfl (hb hby d12_5) rfl kq_) ?_
      show Gl p e below _ (T9.setTop (mkF m 7 #[.val (.ref a1), .val (.int (2 : Int32)), .val (.ref a2), .val (.int (2 : Int32)), .val (.int (3 : Int32)), .val (.int (2 : Int32)), .val (.int c1)] [(.int (3 : Int32)), (.int (2 : Int32))]))
      refine Gl.of (fun _ kq_ => XS.icmpNo X9.here hx rfl (hb hby d12_7) rfl (tlt (by decide : (2 : Int32) < (3 : Int32))).2.1 kq_) ?_
      show Gl p e below _ (T9.setTop (mkF m 10 #[.val (.ref a1), .val (.int (2 : Int32)), .val (.ref a2), .val (.int (2 : Int32)), .val (.int (3 : Int32)), .val (.int (2 : Int32)), .val (.int c1)] []))
      refine Gl.of (fun _ kq_ => XS.aloadN X9.here hx rfl (hb hby d12_10) rfl rfl kq_) ?_
      show Gl p e below _ (T9.setTop (mkF m 11 #[.val (.ref a1), .val (.int (2 : Int32)), .val (.ref a2), .val (.int (2 : Int32)), .val (.int (3 : Int32)), .val (.int (2 : Int32)), .val (.int c1)] [(.ref a1)]))
      refine Gl.of (fun _ kq_ => XS.iloadN X9.here hx rfl (hb hby d12_11) rfl kq_) ?_
      show Gl p e below _ (T9.setTop (mkF m 12 #[.val (.ref a1), .val (.int (2 : Int32)), .val (.ref a2), .val (.int (2 : Int32)), .val (.int (3 : Int32)), .val (.int (2 : Int32)), .val (.int c1)] [(.int (2 : Int32)), (.ref a1)]))
      obtain ⟨zcl11, zAr11, zq11, zS11, zM11, zH11, zG11⟩ := id vc10
      refine Gl.of (fun _ kq_ => X9.caload hx (j := (2 : Int32)) (v := (.int c2)) (by rw [e9]; exact (zAr11).1) (State.isArrayOf_alike hZ.alike (zAr11).2.1) (zAr11).2.2 (inb_of zS11 ⟨by decide, by decide⟩) (zH11 2 (by rw [zS11]; decide)) (g := (mkF m 12 #[.val (.ref a1), .val (.int (2 : Int32)), .val (.ref a2), .val (.int (2 : Int32)), .val (.int (3 : Int32)), .val (.int (2 : Int32)), .val (.int c1)] [(.int (2 : Int32)), (.ref a1)])) rfl rfl (hb hby d12_12) _ kq_) ?_
      show Gl p e below _ (T9.setTop (mkF m 13 #[.val (.ref a1), .val (.int (2 : Int32)), .val (.ref a2), .val (.int (2 : Int32)), .val (.int (3 : Int32)), .val (.int (2 : Int32)), .val (.int c1)] [(.int c2)]))
      refine Gl.of (fun _ kq_ => XS.istore X9.here hx rfl (hb hby d12_13) rfl (l' := #[.val (.ref a1), .val (.int (2 : Int32)), .val (.ref a2), .val (.int (2 : Int32)), .val (.int (3 : Int32)), .val (.int (2 : Int32)), .val (.int c2)]) rfl kq_) ?_
      show Gl p e below _ (T9.setTop (mkF m 15 #[.val (.ref a1), .val (.int (2 : Int32)), .val (.ref a2), .val (.int (2 : Int32)), .val (.int (3 : Int32)), .val (.int (2 : Int32)), .val (.int c2)] []))
      refine Gl.of (fun _ kq_ => XS.iload X9.here hx rfl (hb hby d12_15) rfl kq_) ?_
      show Gl p e below _ (T9.setTop (mkF m 17 #[.val (.ref a1), .val (.int (2 : Int32)), .val (.ref a2), .val (.int (2 : Int32)), .val (.int (3 : Int32)), .val (.int (2 : Int32)), .val (.int c2)] [(.int c2)]))
      refine Gl.of (fun _ kq_ => XS.sipush X9.here hx rfl (hb hby d12_17) kq_) ?_
      show Gl p e below _ (T9.setTop (mkF m 20 #[.val (.ref a1), .val (.int (2 : Int32)), .val (.ref a2), .val (.int (2 : Int32)), .val (.int (3 : Int32)), .val (.int (2 : Int32)), .val (.int c2)] [(.int (255 : Int32)), (.int c2)]))
      by_cases hc20_12 : (255 : Int32) < c2
      · refine Gl.of (fun _ kq_ => XS.icmpNo X9.here hx rfl (hb hby d12_20) rfl (tlt hc20_12).2.2.2 kq_) ?_
        show Gl p e below _ (T9.setTop (mkF m 23 #[.val (.ref a1), .val (.int (2 : Int32)), .val (.ref a2), .val (.int (2 : Int32)), .val (.int (3 : Int32)), .val (.int (2 : Int32)), .val (.int c2)] []))
        refine Gl.of (fun _ kq_ => XS.iload X9.here hx rfl (hb hby d12_23) rfl kq_) ?_
        show Gl p e below _ (T9.setTop (mkF m 25 #[.val (.ref a1), .val (.int (2 : Int32)), .val (.ref a2), .val (.int (2 : Int32)), .val (.int (3 : Int32)), .val (.int (2 : Int32)), .val (.int c2)] [(.int (2 : Int32))]))
        exact Gl.retI X9 hx hlk hret (hb hby d12_25) e9 (⟨_, _, rfl, N9, K9, V9, Or.inr (Or.inr (Or.inr (⟨rfl, hc20_12⟩)))⟩) (by decide) (by decide)
      · refine Gl.of (fun _ kq_ => XS.icmpYes X9.here hx rfl (pc0 := 20) (pc' := 26) rfl (hb hby d12_20) rfl (flt hc20_12).2.2.2 (by decide) (by decide) kq_) ?_
        show Gl p e below _ (T9.setTop (mkF m 26 #[.val (.ref a1), .val (.int (2 : Int32)), .val (.ref a2), .val (.int (2 : Int32)), .val (.int (3 : Int32)), .val (.int (2 : Int32)), .val (.int c2)] []))
        refine Gl.of (fun _ kq_ => XS.aloadN X9.here hx rfl (hb hby d12_26) rfl rfl kq_) ?_
        show Gl p e below _ (T9.setTop (mkF m 27 #[.val (.ref a1), .val (.int (2 : Int32)), .val (.ref a2), .val (.int (2 : Int32)), .val (.int (3 : Int32)), .val (.int (2 : Int32)), .val (.int c2)] [(.ref a2)]))
        refine Gl.of (fun _ kq_ => XS.iloadN X9.here hx rfl (hb hby d12_27) rfl kq_) ?_
        show Gl p e below _ (T9.setTop (mkF m 28 #[.val (.ref a1), .val (.int (2 : Int32)), .val (.ref a2), .val (.int (2 : Int32)), .val (.int (3 : Int32)), .val (.int (2 : Int32)), .val (.int c2)] [(.int (2 : Int32)), (.ref a2)]))
        refine Gl.of (fun _ kq_ => XS.iload X9.here hx rfl (hb hby d12_28) rfl kq_) ?_
        show Gl p e below _ (T9.setTop (mkF m 30 #[.val (.ref a1), .val (.int (2 : Int32)), .val (.ref a2), .val (.int (2 : Int32)), .val (.int (3 : Int32)), .val (.int (2 : Int32)), .val (.int c2)] [(.int c2), (.int (2 : Int32)), (.ref a2)]))
        refine Gl.of (fun _ kq_ => XS.i2b X9.here hx rfl (hb hby d12_30) rfl kq_) ?_
        show Gl p e below _ (T9.setTop (mkF m 31 #[.val (.ref a1), .val (.int (2 : Int32)), .val (.ref a2), .val (.int (2 : Int32)), .val (.int (3 : Int32)), .val (.int (2 : Int32)), .val (.int c2)] [(.int (c2.toInt8.toInt32)), (.int (2 : Int32)), (.ref a2)]))
        obtain ⟨zcl13, zAr13, zq13, zS13, zM13, zH13, zG13⟩ := id V9
        obtain ⟨T14, h14, X14, e14, W14, st14⟩ := stB X9 hx hZ e9 zAr13 (j := (2 : Int32)) (inb_of zS13 ⟨by decide, by decide⟩) (g := (mkF m 31 #[.val (.ref a1), .val (.int (2 : Int32)), .val (.ref a2), .val (.int (2 : Int32)), .val (.int (3 : Int32)), .val (.int (2 : Int32)), .val (.int c2)] [(.int (c2.toInt8.toInt32)), (.int (2 : Int32)), (.ref a2)])) rfl rfl (hb hby d12_31)
        refine Gl.of st14 ?_
        have V14 : Arv Z h14 a2 kk2 .byte (3 : Int32) [(.int (nar .byte (c0.toInt8.toInt32))), (.int (nar .byte (c1.toInt8.toInt32))), (.int (nar .byte (c2.toInt8.toInt32)))] (.int 0) := Arv.set zAr13 zq13 zS13 zM13 zH13 zG13 (fits_nar_byte _) W14 2 rfl (Nat.le_of_ble_eq_true rfl)
        have vc15 := vc10.other W14 hne
        have N14 := Fr.snoc X14 N9 Ga2
        have O14 := O9.wr W14 Ga2
        have K14 := K9.wr W14 (Or.inl (List.mem_of_getElem? (i := 0) rfl))
        show Gl p e below _ (T14.setTop (mkF m 32 #[.val (.ref a1), .val (.int (2 : Int32)), .val (.ref a2), .val (.int (2 : Int32)), .val (.int (3 : Int32)), .val (.int (2 : Int32)), .val (.int c2)] []))
        refine Gl.of (fun _ kq_ => XS.iinc X14.here hx rfl (hb hby d12_32) rfl (l' := #[.val (.ref a1), .val (.int (3 : Int32)), .val (.ref a2), .val (.int (2 : Int32)), .val (.int (3 : Int32)), .val (.int (2 : Int32)), .val (.int c2)]) rfl kq_) ?_
        show Gl p e below _ (T14.setTop (mkF m 35 #[.val (.ref a1), .val (.int (3 : Int32)), .val (.ref a2), .val (.int (2 : Int32)), .val (.int (3 : Int32)), .val (.int (2 : Int32)), .val (.int c2)] []))
        refine Gl.of (fun _ kq_ => XS.iinc X14.here hx rfl (hb hby d12_35) rfl (l' := #[.val (.ref a1), .val (.int (3 : Int32)), .val (.ref a2), .val (.int (3 : Int32)), .val (.int (3 : Int32)), .val (.int (2 : Int32)), .val (.int c2)]) rfl kq_) ?_
        show Gl p e below _ (T14.setTop (mkF m 38 #[.val (.ref a1), .val (.int (3 : Int32)), .val (.ref a2), .val (.int (3 : Int32)), .val (.int (3 : Int32)), .val (.int (2 : Int32)), .val (.int c2)] []))
        refine Gl.of (fun _ kq_ => XS.iinc X14.here hx rfl (hb hby d12_38) rfl (l' := #[.val (.ref a1), .val (.int (3 : Int32)), .val (.ref a2), .val (.int (3 : Int32)), .val (.int (3 : Int32)), .val (.int (3 : Int32)), .val (.int c2)]) rfl kq_) ?_
        show Gl p e below _ (T14.setTop (mkF m 41 #[.val (.ref a1), .val (.int (3 : Int32)), .val (.ref a2), .val (.int (3 : Int32)), .val (.int (3 : Int32)), .val (.int (3 : Int32)), .val (.int c2)] []))
        refine Gl.of (fun _ kq_ => XS.goto X14.here hx rfl (pc0 := 41) (pc' := 3) rfl (hb hby d12_41) (by decide) (by decide) kq_) ?_
        show Gl p e below _ (T14.setTop (mkF m 3 #[.val (.ref a1), .val (.int (3 : Int32)), .val (.ref a2), .val (.int (3 : Int32)), .val (.int (3 : Int32)), .val (.int (3 : Int32)), .val (.int c2)] []))
        refine Gl.of (fun _ kq_ => XS.iload X14.here hx rfl (hb hby d12_3) rfl kq_) ?_
        show Gl p e below _ (T14.setTop (mkF m 5 #[.val (.ref a1), .val (.int (3 : Int32)), .val (.ref a2), .val (.int (3 : Int32)), .val (.int (3 : Int32)), .val (.int (3 : Int32)), .val (.int c2)] [(.int (3 : Int32))]))
        refine Gl.of (fun _ kq_ => XS.iload X14.here hx rfl (hb hby d12_5) rfl kq_) ?_
        show Gl p e below _ (T14.setTop (mkF m 7 #[.val (.ref a1), .val (.int (3 : Int32)), .val (.ref a2), .val (.int (3 : Int32)), .val (.int (3 : Int32)), .val (.int (3 : Int32)), .val (.int c2)] [(.int (3 : Int32)), (.int (3 : Int32))]))
        refine Gl.of (fun _ kq_ => XS.icmpYes X14.here hx rfl (pc0 := 7) (pc' := 44) rfl (hb hby d12_7) rfl (flt (by decide : ¬ ((3 : Int32) < (3 : Int32)))).2.1 (by decide) (by decide) kq_) ?_
        show Gl p e below _ (T14.setTop (mkF m 44 #[.val (.ref a1), .val (.int (3 : Int32)), .val (.ref a2), .val (.int (3 : Int32)), .val (.int (3 : Int32)), .val (.int (3 : Int32)), .val (.int c2)] []))
        refine Gl.of (fun _ kq_ => XS.iload X14.here hx rfl (hb hby d12_44) rfl kq_) ?_
        show Gl p e below _ (T14.setTop (mkF m 46 #[.val (.ref a1), .val (.int (3 : Int32)), .val (.ref a2), .val (.int (3 : Int32)), .val (.int (3 : Int32)), .val (.int (3 : Int32)), .val (.int c2)] [(.int (3 : Int32))]))
        exact Gl.retI X14 hx hlk hret (hb hby d12_46) e14 (⟨_, _, rfl, N14, K14, V14, Or.inl rfl⟩) (by decide) (by decide)
theorem ef_24 (m : MethodId) (x0 : Addr) (x1 : Int32) (x2 : Int32) : entryFrame m #[(.ref x0), (.int x1), (.int x2)] 6 = mkF m 0 #[.val (.ref x0), .val (.int x1), .val (.int x2), .unset, .unset, .unset] [] := by first | (simp [entryFrame, mkF, argsToLocals, Value.category, maxLocals]; done) | rfl
set_option maxRecDepth 65536 in
set_option maxHeartbeats 40000000 in
theorem rmC3 (l : Launch) (Z : State) (a0 : Array Value) (hw : ∀ d ∈ tables_1, d.before a0 Z = true) (h0 : Heap) (a1 : Addr) (kk1 : ClassId) (c0 c1 c2 : Int32) (n0 : Nat) (V1 : Arv Z h0 a1 kk1 .char (3 : Int32) [.int c0, .int c1, .int c2] (.int 0)) (hr0 : own_rg c0) (hr1 : own_rg c1) (hr2 : own_rg c2) (Sa : Sta Z Z.heap "java/lang/StringUTF16" "$assertionsDisabled" "Z" (.int 1)) (Sh : Sta Z Z.heap "java/lang/StringUTF16" "HI_BYTE_SHIFT" "I" (.int 0)) (Sl : Sta Z Z.heap "java/lang/StringUTF16" "LO_BYTE_SHIFT" "I" (.int 8)) (O0 : Old Z n0 h0) : Con l Z (⟨"java/lang/StringUTF16", "compress", "([CII)[B"⟩ : MethodName) jdk_52_method_16_code 6 (some (.array .byte)) [] ({ frames := 3, cells := 2, slots := 9, locals := 45 } : Room) 2 9 #[(.ref a1), (.int (0 : Int32)), (.int (3 : Int32))] h0 (fun v h L => ∃ r k z vs, v = some (.ref r) ∧ Arv Z h r k .byte z vs (.int 0) ∧ ¬ z = 0 ∧ Keep h0 h [] ∧ Fr n0 L ∧ n0 ≤ r ∧ h0.size ≤ r) := by
  refine Con.intro (plainFor_of_name pn_0) ?_
  intro p e s m below meth c s₁ X0 hx hby hml hZ hown hnm hret hlk e0 hs0
  refine Gl.of (fun _ kq_ => castTop (ef_24 m a1 (0 : Int32) (3 : Int32)) kq_) ?_
  have K0 := Keep.refl h0 []
  show Gl p e below _ (s₁.setTop (mkF m 0 #[.val (.ref a1), .val (.int (0 : Int32)), .val (.int (3 : Int32)), .unset, .unset, .unset] []))
  refine Gl.of (fun _ kq_ => XS.iloadN X0.here hx rfl (hb hby d11_0) rfl kq_) ?_
  show Gl p e below _ (s₁.setTop (mkF m 1 #[.val (.ref a1), .val (.int (0 : Int32)), .val (.int (3 : Int32)), .unset, .unset, .unset] [(.int (3 : Int32))]))
  obtain ⟨T1, h1, k1, X1, e1, E1, A1, st1⟩ := newP (aty := .byte) X0 hx hZ (w20 hw) e0 (g := (mkF m 1 #[.val (.ref a1), .val (.int (0 : Int32)), .val (.int (3 : Int32)), .unset, .unset, .unset] [(.int (3 : Int32))])) rfl (hb hby d11_1) rfl (by decide) (cap := 3) (by decide) (by decide) (by decide) (by decide)
  obtain ⟨b1, g1⟩ : ∃ z, z = h0.size := ⟨_, rfl⟩
  rw [← g1] at A1 st1
  refine Gl.of st1 ?_
  have Gb1 : n0 ≤ b1 := Nat.le_trans (O0.1 ▸ O0.2.1) (Nat.le_of_eq g1.symm)
  have Jb1 : h0.size ≤ b1 := Nat.le_trans K0.1 (Nat.le_of_eq g1.symm)
  have ne_a1_b1 : a1 ≠ b1 := Nat.ne_of_lt (Nat.lt_of_lt_of_le V1.lt (Nat.le_of_eq g1.symm))
  have vc2 := V1.ext E1
  have O1 := O0.ext E1
  have K1 := K0.ext E1
  have V1 : Arv Z h1 b1 k1 .byte (3 : Int32) [(.int (0 : Int32)), (.int (0 : Int32)), (.int (0 : Int32))] (.int (0 : Int32)) := (Arv.new A1 (by decide)).pad (pad_rep [] (.int (0 : Int32)) 3)
  show Gl p e below _ (T1.setTop (mkF m 3 #[.val (.ref a1), .val (.int (0 : Int32)), .val (.int (3 : Int32)), .unset, .unset, .unset] [(.ref b1)]))
  refine Gl.of (fun _ kq_ => XS.astoreN X1.here hx rfl (hb hby d11_3) rfl rfl (l' := #[.val (.ref a1), .val (.int (0 : Int32)), .val (.int (3 : Int32)), .val (.ref b1), .unset, .unset]) rfl kq_) ?_
  show Gl p e below _ (T1.setTop (mkF m 4 #[.val (.ref a1), .val (.int (0 : Int32)), .val (.int (3 : Int32)), .val (.ref b1), .unset, .unset] []))
  refine Gl.of (fun _ kq_ => XS.aloadN X1.here hx rfl (hb hby d11_4) rfl rfl kq_) ?_
  show Gl p e below _ (T1.setTop (mkF m 5 #[.val (.ref a1), .val (.int (0 : Int32)), .val (.int (3 : Int32)), .val (.ref b1), .unset, .unset] [(.ref a1)]))
  refine Gl.of (fun _ kq_ => XS.iloadN X1.here hx rfl (hb hby d11_5) rfl kq_) ?_
  show Gl p e below _ (T1.setTop (mkF m 6 #[.val (.ref a1), .val (.int (0 : Int32)), .val (.int (3 : Int32)), .val (.ref b1), .unset, .unset] [(.int (0 : Int32)), (.ref a1)]))
  refine Gl.of (fun _ kq_ => XS.aloadN X1.here hx rfl (hb hby d11_6) rfl rfl kq_) ?_
  show Gl p e below _ (T1.setTop (mkF m 7 #[.val (.ref a1), .val (.int (0 : Int32)), .val (.int (3 : Int32)), .val (.ref b1), .unset, .unset] [(.ref b1), (.int (0 : Int32)), (.ref a1)]))
  refine Gl.of (fun _ kq_ => XS.iconst X1.here hx rfl (hb hby d11_7) kq_) ?_
  show Gl p e below _ (T1.setTop (mkF m 8 #[.val (.ref a1), .val (.int (0 : Int32)), .val (.int (3 : Int32)), .val (.ref b1), .unset, .unset] [(.int (0 : Int32)), (.ref b1), (.int (0 : Int32)), (.ref a1)]))
  refine Gl.of (fun _ kq_ => XS.iloadN X1.here hx rfl (hb hby d11_8) rfl kq_) ?_
  show Gl p e below _ (T1.setTop (mkF m 9 #[.val (.ref a1), .val (.int (0 : Int32)), .val (.int (3 : Int32)), .val (.ref b1), .unset, .unset] [(.int (3 : Int32)), (.int (0 : Int32)), (.ref b1), (.int (0 : Int32)), (.ref a1)]))
  refine Gl.callS X1 hx hZ (y := (⟨"java/lang/StringUTF16", "compress", "([CI[BII)I"⟩ : MethodName)) hown (w80 hw) (w81 hw) (w78 hw) (w82 hw) (desc_ne (by decide)) (rm := { frames := 0, cells := 0, slots := 0, locals := 0 }) (argsL := [(.ref a1), (.int (0 : Int32)), (.ref b1), (.int (0 : Int32)), (.int (3 : Int32))]) (rest := []) (rmK3 l Z a0 hw _ a1 b1 kk1 k1 c0 c1 c2 n0 vc2 V1 ne_a1_b1 Gb1 O1) 0 (by decide) (by decide) (by decide) (by decide) e1 (pc := 9) (Ls := #[.val (.ref a1), .val (.int (0 : Int32)), .val (.int (3 : Int32)), .val (.ref b1), .unset, .unset]) (st := [(.int (3 : Int32)), (.int (0 : Int32)), (.ref b1), (.int (0 : Int32)), (.ref a1)]) (by rw [hml]; rfl) pd_3 rfl rfl (Nat.le_of_eq rfl) (hb hby d11_9) ?_
  intro v3 T3 L3 X3 hQ3
  obtain ⟨z3, vs3, rfl, Nq3, Kq3, Vq3, dj3⟩ := hQ3
  have N3 := Fr.app (Fr.nil n0) Nq3
  have vc4 := vc2.keep Kq3 (fun q => ne_a1_b1 (List.mem_singleton.mp q))
  have O3 := O1.keep Kq3 (allS Gb1 all0)
  have K3 := K1.trans Kq3 (by intro x hx'; cases List.mem_singleton.mp hx'; exact Or.inr Jb1)
  rcases dj3 with rfl | ⟨rfl, hb3⟩ | ⟨rfl, hb3⟩ | ⟨rfl, hb3⟩
  · show Gl p e below _ (T3.setTop (mkF m 12 #[.val (.ref a1), .val (.int (0 : Int32)), .val (.int (3 : Int32)), .val (.ref b1), .unset, .unset] [(.int (3 : Int32))]))
    refine Gl.of (fun _ kq_ => XS.istore X3.here hx rfl (hb hby d11_12) rfl (l' := #[.val (.ref a1), .val (.int (0 : Int32)), .val (.int (3 : Int32)), .val (.ref b1), .val (.int (3 : Int32)), .unset]) rfl kq_) ?_
    show Gl p e below _ (T3.setTop (mkF m 14 #[.val (.ref a1), .val (.int (0 : Int32)), .val (.int (3 : Int32)), .val (.ref b1), .val (.int (3 : Int32)), .unset] []))
    refine Gl.of (fun _ kq_ => XS.iload X3.here hx rfl (hb hby d11_14) rfl kq_) ?_
    show Gl p e below _ (T3.setTop (mkF m 16 #[.val (.ref a1), .val (.int (0 : Int32)), .val (.int (3 : Int32)), .val (.ref b1), .val (.int (3 : Int32)), .unset] [(.int (3 : Int32))]))
    refine Gl.of (fun _ kq_ => XS.iloadN X3.here hx rfl (hb hby d11_16) rfl kq_) ?_
    show Gl p e below _ (T3.setTop (mkF m 17 #[.val (.ref a1), .val (.int (0 : Int32)), .val (.int (3 : Int32)), .val (.ref b1), .val (.int (3 : Int32)), .unset] [(.int (3 : Int32)), (.int (3 : Int32))]))
    refine Gl.of (fun _ kq_ => XS.icmpYes X3.here hx rfl (pc0 := 17) (pc' := 57) rfl (hb hby d11_17) rfl (teq (by decide : (3 : Int32) = (3 : Int32))).1 (by decide) (by decide) kq_) ?_
    show Gl p e below _ (T3.setTop (mkF m 57 #[.val (.ref a1), .val (.int (0 : Int32)), .val (.int (3 : Int32)), .val (.ref b1), .val (.int (3 : Int32)), .unset] []))
    refine Gl.of (fun _ kq_ => XS.aloadN X3.here hx rfl (hb hby d11_57) rfl rfl kq_) ?_
    show Gl p e below _ (T3.setTop (mkF m 58 #[.val (.ref a1), .val (.int (0 : Int32)), .val (.int (3 : Int32)), .val (.ref b1), .val (.int (3 : Int32)), .unset] [(.ref b1)]))
    exact Gl.retR X3 hx hlk hret rfl rfl (hb hby d11_58) rfl (⟨_, _, _, _, rfl, Vq3, (by decide), K3, N3, Gb1, Jb1⟩) (by decide) (by decide)
  · show Gl p e below _ (T3.setTop (mkF m 12 #[.val (.ref a1), .val (.int (0 : Int32)), .val (.int (3 : Int32)), .val (.ref b1), .unset, .unset] [(.int (0 : Int32))]))
    refine Gl.of (fun _ kq_ => XS.istore X3.here hx rfl (hb hby d11_12) rfl (l' := #[.val (.ref a1), .val (.int (0 : Int32)), .val (.int (3 : Int32)), .val (.ref b1), .val (.int (0 : Int32)), .unset]) rfl kq_) ?_
    show Gl p e below _ (T3.setTop (mkF m 14 #[.val (.ref a1), .val (.int (0 : Int32)), .val (.int (3 : Int32)), .val (.ref b1), .val (.int (0 : Int32)), .unset] []))
    refine Gl.of (fun _ kq_ => XS.iload X3.here hx rfl (hb hby d11_14) rfl kq_) ?_
    show Gl p e below _ (T3.setTop (mkF m 16 #[.val (.ref a1), .val (.int (0 : Int32)), .val (.int (3 : Int32)), .val (.ref b1), .val (.int (0 : Int32)), .unset] [(.int (0 : Int32))]))
    refine Gl.of (fun _ kq_ => XS.iloadN X3.here hx rfl (hb hby d11_16) rfl kq_) ?_
    show Gl p e below _ (T3.setTop (mkF m 17 #[.val (.ref a1), .val (.int (0 : Int32)), .val (.int (3 : Int32)), .val (.ref b1), .val (.int (0 : Int32)), .unset] [(.int (3 : Int32)), (.int (0 : Int32))]))
    refine Gl.of (fun _ kq_ => XS.icmpNo X3.here hx rfl (hb hby d11_17) rfl (feq (by decide : ¬ ((0 : Int32) = (3 : Int32)))).1 kq_) ?_
    show Gl p e below _ (T3.setTop (mkF m 20 #[.val (.ref a1), .val (.int (0 : Int32)), .val (.int (3 : Int32)), .val (.ref b1), .val (.int (0 : Int32)), .unset] []))
    refine Gl.of (fun _ kq_ => XS.aloadN X3.here hx rfl (hb hby d11_20) rfl rfl kq_) ?_
    show Gl p e below _ (T3.setTop (mkF m 21 #[.val (.ref a1), .val (.int (0 : Int32)), .val (.int (3 : Int32)), .val (.ref b1), .val (.int (0 : Int32)), .unset] [(.ref a1)]))
    refine Gl.of (fun _ kq_ => XS.iloadN X3.here hx rfl (hb hby d11_21) rfl kq_) ?_
    show Gl p e below _ (T3.setTop (mkF m 22 #[.val (.ref a1), .val (.int (0 : Int32)), .val (.int (3 : Int32)), .val (.ref b1), .val (.int (0 : Int32)), .unset] [(.int (0 : Int32)), (.ref a1)]))
    refine Gl.of (fun _ kq_ => XS.iloadN X3.here hx rfl (hb hby d11_22) rfl kq_) ?_
    show Gl p e below _ (T3.setTop (mkF m 23 #[.val (.ref a1), .val (.int (0 : Int32)), .val (.int (3 : Int32)), .val (.ref b1), .val (.int (0 : Int32)), .unset] [(.int (3 : Int32)), (.int (0 : Int32)), (.ref a1)]))
    refine Gl.callS X3 hx hZ (y := (⟨"java/lang/StringUTF16", "toBytes", "([CII)[B"⟩ : MethodName)) hown (w83 hw) (w84 hw) (w78 hw) (w85 hw) (desc_ne (by decide)) (rm := { frames := 2, cells := 1, slots := 6, locals := 26 }) (argsL := [(.ref a1), (.int (0 : Int32)), (.int (3 : Int32))]) (rest := []) (rmB3 l Z a0 hw _ a1 kk1 c0 c1 c2 n0 vc4 Sa Sh Sl O3) 0 (by decide) (by decide) (by decide) (by decide) rfl (pc := 23) (Ls := #[.val (.ref a1), .val (.int (0 : Int32)), .val (.int (3 : Int32)), .val (.ref b1), .val (.int (0 : Int32)), .unset]) (st := [(.int (3 : Int32)), (.int (0 : Int32)), (.ref a1)]) (by rw [hml]; rfl) pd_4 rfl rfl (Nat.le_of_eq rfl) (hb hby d11_23) ?_
    intro v5 T5 L5 X5 hQ5
    obtain ⟨r5, k5, rfl, Vq5, Kq5, Nq5, Gr5, H5⟩ := hQ5
    have N5 := Fr.app N3 Nq5
    have ne_a1_r5 : a1 ≠ r5 := Nat.ne_of_lt (Nat.lt_of_lt_of_le vc4.lt H5)
    have ne_b1_r5 : b1 ≠ r5 := Nat.ne_of_lt (Nat.lt_of_lt_of_le Vq3.lt H5)
    have Jr5 : h0.size ≤ r5 := Nat.le_trans K3.1 H5
    have vc6 := vc4.keep Kq5 (by simp)
    have vc7 := Vq3.keep Kq5 (by simp)
    have O5 := O3.keep Kq5 all0
    have K5 := K3.trans Kq5 (by intro x hx'; exact nomatch hx')
    show Gl p e below _ (T5.setTop (mkF m 26 #[.val (.ref a1), .val (.int (0 : Int32)), .val (.int (3 : Int32)), .val (.ref b1), .val (.int (0 : Int32)), .unset] [(.ref r5)]))
    refine Gl.of (fun _ kq_ => XS.astore X5.here hx rfl (hb hby d11_26) rfl rfl (l' := #[.val (.ref a1), .val (.int (0 : Int32)), .val (.int (3 : Int32)), .val (.ref b1), .val (.int (0 : Int32)), .val (.ref r5)]) rfl kq_) ?_
    show Gl p e below _ (T5.setTop (mkF m 28 #[.val (.ref a1), .val (.int (0 : Int32)), .val (.int (3 : Int32)), .val (.ref b1), .val (.int (0 : Int32)), .val (.ref r5)] []))
    refine Gl.of (fun _ kq_ => XS.aload X5.here hx rfl (hb hby d11_28) rfl rfl kq_) ?_
    show Gl p e below _ (T5.setTop (mkF m 30 #[.val (.ref a1), .val (.int (0 : Int32)), .val (.int (3 : Int32)), .val (.ref b1), .val (.int (0 : Int32)), .val (.ref r5)] [(.ref r5)]))
    refine Gl.of (fun _ kq_ => XS.iload X5.here hx rfl (hb hby d11_30) rfl kq_) ?_
    show Gl p e below _ (T5.setTop (mkF m 32 #[.val (.ref a1), .val (.int (0 : Int32)), .val (.int (3 : Int32)), .val (.ref b1), .val (.int (0 : Int32)), .val (.ref r5)] [(.int (0 : Int32)), (.ref r5)]))
    refine Gl.callS0 X5 hx hZ (y := (⟨"java/lang/StringUTF16", "getChar", "([BI)C"⟩ : MethodName)) hown (w99 hw) (w100 hw) (w78 hw) (w101 hw) (desc_ne (by decide)) (argsL := [(.ref r5), (.int (0 : Int32))]) (rest := []) (rmG30 l Z a0 hw _ r5 k5 (own_hi c0) (own_lo c0) (own_hi c1) (own_lo c1) (own_hi c2) (own_lo c2) n0 Vq5 Sa Sh Sl O5) 0 (by decide) (by decide) rfl (pc := 32) (Ls := #[.val (.ref a1), .val (.int (0 : Int32)), .val (.int (3 : Int32)), .val (.ref b1), .val (.int (0 : Int32)), .val (.ref r5)]) (st := [(.int (0 : Int32)), (.ref r5)]) (by rw [hml]; rfl) pd_5 rfl rfl (Nat.le_of_eq rfl) (hb hby d11_32) (by decide) (by decide) ?_
    intro v8 T8 X8 e8 hv8
    subst hv8
    show Gl p e below _ (T8.setTop (mkF m 35 #[.val (.ref a1), .val (.int (0 : Int32)), .val (.int (3 : Int32)), .val (.ref b1), .val (.int (0 : Int32)), .val (.ref r5)] [(.int (own_gc (own_hi c0) (own_lo c0)))]))
    refine Gl.of (fun _ kq_ => XS.sipush X8.here hx rfl (hb hby d11_35) kq_) ?_
    show Gl p e below _ (T8.setTop (mkF m 38 #[.val (.ref a1), .val (.int (0 : Int32)), .val (.int (3 : Int32)), .val (.ref b1), .val (.int (0 : Int32)), .val (.ref r5)] [(.int (255 : Int32)), (.int (own_gc (own_hi c0) (own_lo c0)))]))
    refine Gl.of (fun _ kq_ => XS.icmpYes X8.here hx rfl (pc0 := 38) (pc' := 54) rfl (hb hby d11_38) rfl (tlt (by rw [own_gch hr0]; exact hb3 : (255 : Int32) < (own_gc (own_hi c0) (own_lo c0)))).2.2.1 (by decide) (by decide) kq_) ?_
    show Gl p e below _ (T8.setTop (mkF m 54 #[.val (.ref a1), .val (.int (0 : Int32)), .val (.int (3 : Int32)), .val (.ref b1), .val (.int (0 : Int32)), .val (.ref r5)] []))
    refine Gl.of (fun _ kq_ => XS.aload X8.here hx rfl (hb hby d11_54) rfl rfl kq_) ?_
    show Gl p e below _ (T8.setTop (mkF m 56 #[.val (.ref a1), .val (.int (0 : Int32)), .val (.int (3 : Int32)), .val (.ref b1), .val (.int (0 : Int32)), .val (.ref r5)] [(.ref r5)]))
    exact Gl.retR X8 hx hlk hret rfl rfl (hb hby d11_56) e8 (⟨_, _, _, _, rfl, Vq5, (by decide), K5, N5, Gr5, Jr5⟩) (by decide) (by decide)
  · show Gl p e below _ (T3.setTop (mkF m 12 #[.val (.ref a1), .val (.int (0 : Int32)), .val (.int (3 : Int32)), .val (.ref b1), .unset, .unset] [(.int (1 : Int32))]))
    refine Gl.of (fun _ kq_ => XS.istore X3.here hx rfl (hb hby d11_12) rfl (l' := #[.val (.ref a1), .val (.int (0 : Int32)), .val (.int (3 : Int32)), .val (.ref b1), .val (.int (1 : Int32)), .unset]) rfl kq_) ?_
    show Gl p e below _ (T3.setTop (mkF m 14 #[.val (.ref a1), .val (.int (0 : Int32)), .val (.int (3 : Int32)), .val (.ref b1), .val (.int (1 : Int32)), .unset] []))
    refine Gl.of (fun _ kq_ => XS.iload X3.here hx rfl (hb hby d11_14) rfl kq_) ?_
    show Gl p e below _ (T3.setTop (mkF m 16 #[.val (.ref a1), .val (.int (0 : Int32)), .val (.int (3 : Int32)), .val (.ref b1), .val (.int (1 : Int32)), .unset] [(.int (1 : Int32))]))
    refine Gl.of (fun _ kq_ => XS.iloadN X3.here hx rfl (hb hby d11_16) rfl kq_) ?_
    show Gl p e below _ (T3.setTop (mkF m 17 #[.val (.ref a1), .val (.int (0 : Int32)), .val (.int (3 : Int32)), .val (.ref b1), .val (.int (1 : Int32)), .unset] [(.int (3 : Int32)), (.int (1 : Int32))]))
    refine Gl.of (fun _ kq_ => XS.icmpNo X3.here hx rfl (hb hby d11_17) rfl (feq (by decide : ¬ ((1 : Int32) = (3 : Int32)))).1 kq_) ?_
    show Gl p e below _ (T3.setTop (mkF m 20 #[.val (.ref a1), .val (.int (0 : Int32)), .val (.int (3 : Int32)), .val (.ref b1), .val (.int (1 : Int32)), .unset] []))
    refine Gl.of (fun _ kq_ => XS.aloadN X3.here hx rfl (hb hby d11_20) rfl rfl kq_) ?_
    show Gl p e below _ (T3.setTop (mkF m 21 #[.val (.ref a1), .val (.int (0 : Int32)), .val (.int (3 : Int32)), .val (.ref b1), .val (.int (1 : Int32)), .unset] [(.ref a1)]))
    refine Gl.of (fun _ kq_ => XS.iloadN X3.here hx rfl (hb hby d11_21) rfl kq_) ?_
    show Gl p e below _ (T3.setTop (mkF m 22 #[.val (.ref a1), .val (.int (0 : Int32)), .val (.int (3 : Int32)), .val (.ref b1), .val (.int (1 : Int32)), .unset] [(.int (0 : Int32)), (.ref a1)]))
    refine Gl.of (fun _ kq_ => XS.iloadN X3.here hx rfl (hb hby d11_22) rfl kq_) ?_
    show Gl p e below _ (T3.setTop (mkF m 23 #[.val (.ref a1), .val (.int (0 : Int32)), .val (.int (3 : Int32)), .val (.ref b1), .val (.int (1 : Int32)), .unset] [(.int (3 : Int32)), (.int (0 : Int32)), (.ref a1)]))
    refine Gl.callS X3 hx hZ (y := (⟨"java/lang/StringUTF16", "toBytes", "([CII)[B"⟩ : MethodName)) hown (w83 hw) (w84 hw) (w78 hw) (w85 hw) (desc_ne (by decide)) (rm := { frames := 2, cells := 1, slots := 6, locals := 26 }) (argsL := [(.ref a1), (.int (0 : Int32)), (.int (3 : Int32))]) (rest := []) (rmB3 l Z a0 hw _ a1 kk1 c0 c1 c2 n0 vc4 Sa Sh Sl O3) 0 (by decide) (by decide) (by decide) (by decide) rfl (pc := 23) (Ls := #[.val (.ref a1), .val (.int (0 : Int32)), .val (.int (3 : Int32)), .val (.ref b1), .val (.int (1 : Int32)), .unset]) (st := [(.int (3 : Int32)), (.int (0 : Int32)), (.ref a1)]) (by rw [hml]; rfl) pd_4 rfl rfl (Nat.le_of_eq rfl) (hb hby d11_23) ?_
    intro v9 T9 L9 X9 hQ9
    obtain ⟨r9, k9, rfl, Vq9, Kq9, Nq9, Gr9, H9⟩ := hQ9
    have N9 := Fr.app N3 Nq9
    have ne_a1_r9 : a1 ≠ r9 := Nat.ne_of_lt (Nat.lt_of_lt_of_le vc4.lt H9)
    have ne_b1_r9 : b1 ≠ r9 := Nat.ne_of_lt (Nat.lt_of_lt_of_le Vq3.lt H9)
    have Jr9 : h0.size ≤ r9 := Nat.le_trans K3.1 H9
    have vc10 := vc4.keep Kq9 (by simp)
    have vc11 := Vq3.keep Kq9 (by simp)
    have O9 := O3.keep Kq9 all0
    have K9 := K3.trans Kq9 (by intro x hx'; exact nomatch hx')
    show Gl p e below _ (T9.setTop (mkF m 26 #[.val (.ref a1), .val (.int (0 : Int32)), .val (.int (3 : Int32)), .val (.ref b1), .val (.int (1 : Int32)), .unset] [(.ref r9)]))
    refine Gl.of (fun _ kq_ => XS.astore X9.here hx rfl (hb hby d11_26) rfl rfl (l' := #[.val (.ref a1), .val (.int (0 : Int32)), .val (.int (3 : Int32)), .val (.ref b1), .val (.int (1 : Int32)), .val (.ref r9)]) rfl kq_) ?_
    show Gl p e below _ (T9.setTop (mkF m 28 #[.val (.ref a1), .val (.int (0 : Int32)), .val (.int (3 : Int32)), .val (.ref b1), .val (.int (1 : Int32)), .val (.ref r9)] []))
    refine Gl.of (fun _ kq_ => XS.aload X9.here hx rfl (hb hby d11_28) rfl rfl kq_) ?_
    show Gl p e below _ (T9.setTop (mkF m 30 #[.val (.ref a1), .val (.int (0 : Int32)), .val (.int (3 : Int32)), .val (.ref b1), .val (.int (1 : Int32)), .val (.ref r9)] [(.ref r9)]))
    refine Gl.of (fun _ kq_ => XS.iload X9.here hx rfl (hb hby d11_30) rfl kq_) ?_
    show Gl p e below _ (T9.setTop (mkF m 32 #[.val (.ref a1), .val (.int (0 : Int32)), .val (.int (3 : Int32)), .val (.ref b1), .val (.int (1 : Int32)), .val (.ref r9)] [(.int (1 : Int32)), (.ref r9)]))
    refine Gl.callS0 X9 hx hZ (y := (⟨"java/lang/StringUTF16", "getChar", "([BI)C"⟩ : MethodName)) hown (w99 hw) (w100 hw) (w78 hw) (w101 hw) (desc_ne (by decide)) (argsL := [(.ref r9), (.int (1 : Int32))]) (rest := []) (rmG31 l Z a0 hw _ r9 k9 (own_hi c0) (own_lo c0) (own_hi c1) (own_lo c1) (own_hi c2) (own_lo c2) n0 Vq9 Sa Sh Sl O9) 0 (by decide) (by decide) rfl (pc := 32) (Ls := #[.val (.ref a1), .val (.int (0 : Int32)), .val (.int (3 : Int32)), .val (.ref b1), .val (.int (1 : Int32)), .val (.ref r9)]) (st := [(.int (1 : Int32)), (.ref r9)]) (by rw [hml]; rfl) pd_5 rfl rfl (Nat.le_of_eq rfl) (hb hby d11_32) (by decide) (by decide) ?_
    intro v12 T12 X12 e12 hv12
    subst hv12
    show Gl p e below _ (T12.setTop (mkF m 35 #[.val (.ref a1), .val (.int (0 : Int32)), .val (.int (3 : Int32)), .val (.ref b1), .val (.int (1 : Int32)), .val (.ref r9)] [(.int (own_gc (own_hi c1) (own_lo c1)))]))
    refine Gl.of (fun _ kq_ => XS.sipush X12.here hx rfl (hb hby d11_35) kq_) ?_
    show Gl p e below _ (T12.setTop (mkF m 38 #[.val (.ref a1), .val (.int (0 : Int32)), .val (.int (3 : Int32)), .val (.ref b1), .val (.int (1 : Int32)), .val (.ref r9)] [(.int (255 : Int32)), (.int (own_gc (own_hi c1) (own_lo c1)))]))
    refine Gl.of (fun _ kq_ => XS.icmpYes X12.here hx rfl (pc0 := 38) (pc' := 54) rfl (hb hby d11_38) rfl (tlt (by rw [own_gch hr1]; exact hb3 : (255 : Int32) < (own_gc (own_hi c1) (own_lo c1)))).2.2.1 (by decide) (by decide) kq_) ?_
    show Gl p e below _ (T12.setTop (mkF m 54 #[.val (.ref a1), .val (.int (0 : Int32)), .val (.int (3 : Int32)), .val (.ref b1), .val (.int (1 : Int32)), .val (.ref r9)] []))
    refine Gl.of (fun _ kq_ => XS.aload X12.here hx rfl (hb hby d11_54) rfl rfl kq_) ?_
    show Gl p e below _ (T12.setTop (mkF m 56 #[.val (.ref a1), .val (.int (0 : Int32)), .val (.int (3 : Int32)), .val (.ref b1), .val (.int (1 : Int32)), .val (.ref r9)] [(.ref r9)]))
    exact Gl.retR X12 hx hlk hret rfl rfl (hb hby d11_56) e12 (⟨_, _, _, _, rfl, Vq9, (by decide), K9, N9, Gr9, Jr9⟩) (by decide) (by decide)
  · show Gl p e below _ (T3.setTop (mkF m 12 #[.val (.ref a1), .val (.int (0 : Int32)), .val (.int (3 : Int32)), .val (.ref b1), .unset, .unset] [(.int (2 : Int32))]))
    refine Gl.of (fun _ kq_ => XS.istore X3.here hx rfl (hb hby d11_12) rfl (l' := #[.val (.ref a1), .val (.int (0 : Int32)), .val (.int (3 : Int32)), .val (.ref b1), .val (.int (2 : Int32)), .unset]) rfl kq_) ?_
    show Gl p e below _ (T3.setTop (mkF m 14 #[.val (.ref a1), .val (.int (0 : Int32)), .val (.int (3 : Int32)), .val (.ref b1), .val (.int (2 : Int32)), .unset] []))
    refine Gl.of (fun _ kq_ => XS.iload X3.here hx rfl (hb hby d11_14) rfl kq_) ?_
    show Gl p e below _ (T3.setTop (mkF m 16 #[.val (.ref a1), .val (.int (0 : Int32)), .val (.int (3 : Int32)), .val (.ref b1), .val (.int (2 : Int32)), .unset] [(.int (2 : Int32))]))
    refine Gl.of (fun _ kq_ => XS.iloadN X3.here hx rfl (hb hby d11_16) rfl kq_) ?_
    show Gl p e below _ (T3.setTop (mkF m 17 #[.val (.ref a1), .val (.int (0 : Int32)), .val (.int (3 : Int32)), .val (.ref b1), .val (.int (2 : Int32)), .unset] [(.int (3 : Int32)), (.int (2 : Int32))]))
    refine Gl.of (fun _ kq_ => XS.icmpNo X3.here hx rfl (hb hby d11_17) rfl (feq (by decide : ¬ ((2 : Int32) = (3 : Int32)))).1 kq_) ?_
    show Gl p e below _ (T3.setTop (mkF m 20 #[.val (.ref a1), .val (.int (0 : Int32)), .val (.int (3 : Int32)), .val (.ref b1), .val (.int (2 : Int32)), .unset] []))
    refine Gl.of (fun _ kq_ => XS.aloadN X3.here hx rfl (hb hby d11_20) rfl rfl kq_) ?_
    show Gl p e below _ (T3.setTop (mkF m 21 #[.val (.ref a1), .val (.int (0 : Int32)), .val (.int (3 : Int32)), .val (.ref b1), .val (.int (2 : Int32)), .unset] [(.ref a1)]))
    refine Gl.of (fun _ kq_ => XS.iloadN X3.here hx rfl (hb hby d11_21) rfl kq_) ?_
    show Gl p e below _ (T3.setTop (mkF m 22 #[.val (.ref a1), .val (.int (0 : Int32)), .val (.int (3 : Int32)), .val (.ref b1), .val (.int (2 : Int32)), .unset] [(.int (0 : Int32)), (.ref a1)]))
    refine Gl.of (fun _ kq_ => XS.iloadN X3.here hx rfl (hb hby d11_22) rfl kq_) ?_
    show Gl p e below _ (T3.setTop (mkF m 23 #[.val (.ref a1), .val (.int (0 : Int32)), .val (.int (3 : Int32)), .val (.ref b1), .val (.int (2 : Int32)), .unset] [(.int (3 : Int32)), (.int (0 : Int32)), (.ref a1)]))
    refine Gl.callS X3 hx hZ (y := (⟨"java/lang/StringUTF16", "toBytes", "([CII)[B"⟩ : MethodName)) hown (w83 hw) (w84 hw) (w78 hw) (w85 hw) (desc_ne (by decide)) (rm := { frames := 2, cells := 1, slots := 6, locals := 26 }) (argsL := [(.ref a1), (.int (0 : Int32)), (.int (3 : Int32))]) (rest := []) (rmB3 l Z a0 hw _ a1 kk1 c0 c1 c2 n0 vc4 Sa Sh Sl O3) 0 (by decide) (by decide) (by decide) (by decide) rfl (pc := 23) (Ls := #[.val (.ref a1), .val (.int (0 : Int32)), .val (.int (3 : Int32)), .val (.ref b1), .val (.int (2 : Int32)), .unset]) (st := [(.int (3 : Int32)), (.int (0 : Int32)), (.ref a1)]) (by rw [hml]; rfl) pd_4 rfl rfl (Nat.le_of_eq rfl) (hb hby d11_23) ?_
    intro v13 T13 L13 X13 hQ13
    obtain ⟨r13, k13, rfl, Vq13, Kq13, Nq13, Gr13, H13⟩ := hQ13
    have N13 := Fr.app N3 Nq13
    have ne_a1_r13 : a1 ≠ r13 := Nat.ne_of_lt (Nat.lt_of_lt_of_le vc4.lt H13)
    have ne_b1_r13 : b1 ≠ r13 := Nat.ne_of_lt (Nat.lt_of_lt_of_le Vq3.lt H13)
    have Jr13 : h0.size ≤ r13 := Nat.le_trans K3.1 H13
    have vc14 := vc4.keep Kq13 (by simp)
    have vc15 := Vq3.keep Kq13 (by simp)
    have O13 := O3.keep Kq13 all0
    have K13 := K3.trans Kq13 (by intro x hx'; exact nomatch hx')
    show Gl p e below _ (T13.setTop (mkF m 26 #[.val (.ref a1), .val (.int (0 : Int32)), .val (.int (3 : Int32)), .val (.ref b1), .val (.int (2 : Int32)), .unset] [(.ref r13)]))
    refine Gl.of (fun _ kq_ => XS.astore X13.here hx rfl (hb hby d11_26) rfl rfl (l' := #[.val (.ref a1), .val (.int (0 : Int32)), .val (.int (3 : Int32)), .val (.ref b1), .val (.int (2 : Int32)), .val (.ref r13)]) rfl kq_) ?_
    show Gl p e below _ (T13.setTop (mkF m 28 #[.val (.ref a1), .val (.int (0 : Int32)), .val (.int (3 : Int32)), .val (.ref b1), .val (.int (2 : Int32)), .val (.ref r13)] []))
    refine Gl.of (fun _ kq_ => XS.aload X13.here hx rfl (hb hby d11_28) rfl rfl kq_) ?_
    show Gl p e below _ (T13.setTop (mkF m 30 #[.val (.ref a1), .val (.int (0 : Int32)), .val (.int (3 : Int32)), .val (.ref b1), .val (.int (2 : Int32)), .val (.ref r13)] [(.ref r13)]))
    refine Gl.of (fun _ kq_ => XS.iload X13.here hx rfl (hb hby d11_30) rfl kq_) ?_
    show Gl p e below _ (T13.setTop (mkF m 32 #[.val (.ref a1), .val (.int (0 : Int32)), .val (.int (3 : Int32)), .val (.ref b1), .val (.int (2 : Int32)), .val (.ref r13)] [(.int (2 : Int32)), (.ref r13)]))
    refine Gl.callS0 X13 hx hZ (y := (⟨"java/lang/StringUTF16", "getChar", "([BI)C"⟩ : MethodName)) hown (w99 hw) (w100 hw) (w78 hw) (w101 hw) (desc_ne (by decide)) (argsL := [(.ref r13), (.int (2 : Int32))]) (rest := []) (rmG32 l Z a0 hw _ r13 k13 (own_hi c0) (own_lo c0) (own_hi c1) (own_lo c1) (own_hi c2) (own_lo c2) n0 Vq13 Sa Sh Sl O13) 0 (by decide) (by decide) rfl (pc := 32) (Ls := #[.val (.ref a1), .val (.int (0 : Int32)), .val (.int (3 : Int32)), .val (.ref b1), .val (.int (2 : Int32)), .val (.ref r13)]) (st := [(.int (2 : Int32)), (.ref r13)]) (by rw [hml]; rfl) pd_5 rfl rfl (Nat.le_of_eq rfl) (hb hby d11_32) (by decide) (by decide) ?_
    intro v16 T16 X16 e16 hv16
    subst hv16
    show Gl p e below _ (T16.setTop (mkF m 35 #[.val (.ref a1), .val (.int (0 : Int32)), .val (.int (3 : Int32)), .val (.ref b1), .val (.int (2 : Int32)), .val (.ref r13)] [(.int (own_gc (own_hi c2) (own_lo c2)))]))
    refine Gl.of (fun _ kq_ => XS.sipush X16.here hx rfl (hb hby d11_35) kq_) ?_
    show Gl p e below _ (T16.setTop (mkF m 38 #[.val (.ref a1), .val (.int (0 : Int32)), .val (.int (3 : Int32)), .val (.ref b1), .val (.int (2 : Int32)), .val (.ref r13)] [(.int (255 : Int32)), (.int (own_gc (own_hi c2) (own_lo c2)))]))
    refine Gl.of (fun _ kq_ => XS.icmpYes X16.here hx rfl (pc0 := 38) (pc' := 54) rfl (hb hby d11_38) rfl (tlt (by rw [own_gch hr2]; exact hb3 : (255 : Int32) < (own_gc (own_hi c2) (own_lo c2)))).2.2.1 (by decide) (by decide) kq_) ?_
    show Gl p e below _ (T16.setTop (mkF m 54 #[.val (.ref a1), .val (.int (0 : Int32)), .val (.int (3 : Int32)), .val (.ref b1), .val (.int (2 : Int32)), .val (.ref r13)] []))
    refine Gl.of (fun _ kq_ => XS.aload X16.here hx rfl (hb hby d11_54) rfl rfl kq_) ?_
    show Gl p e below _ (T16.setTop (mkF m 56 #[.val (.ref a1), .val (.int (0 : Int32)), .val (.int (3 : Int32)), .val (.ref b1), .val (.int (2 : Int32)), .val (.ref r13)] [(.ref r13)]))
    exact Gl.retR X16 hx hlk hret rfl rfl (hb hby d11_56) e16 (⟨_, _, _, _, rfl, Vq13, (by decide), K13, N13, Gr13, Jr13⟩) (by decide) (by decide)
theorem ef_25 (m : MethodId) (x0 : Addr) (x1 : Addr) (x2 : Int32) (x3 : Int32)  : entryFrame m #[(.ref x0), (.ref x1), (.int x2), (.int x3), .null] 6 = mkF m 0 #[.val (.ref x0), .val (.ref x1), .val (.int x2), .val (.int x3), .val .null, .unset] [] := by first | (simp [entryFrame, mkF, argsToLocals, Value.category, maxLocals]; done) | rfl
set_option maxRecDepth 65536 in
set_option maxHeartbeats 40000000 in
theorem rmI3 (l : Launch) (Z : State) (a0 : Array Value) (hw : ∀ d ∈ tables_1, d.before a0 Z = true) (h0 : Heap) (b1 a1 : Addr) (kk1 : ClassId) (c0 c1 c2 : Int32) (cz : Int32) (n0 : Nat) (E1 : Exa Z h0 b1 "java/lang/String") (Fv : Fld Z h0 b1 "java/lang/String" "value" "[B" .null) (Fc : Fld Z h0 b1 "java/lang/String" "coder" "B" (.int 0)) (Gb1 : n0 ≤ b1) (V1 : Arv Z h0 a1 kk1 .char (3 : Int32) [.int c0, .int c1, .int c2] (.int 0)) (hab : ¬ a1 = b1) (hr0 : own_rg c0) (hr1 : own_rg c1) (hr2 : own_rg c2) (SC : Sta Z Z.heap "java/lang/String" "COMPACT_STRINGS" "Z" (.int cz)) (hcz : ¬ cz = 0) (Sa : Sta Z Z.heap "java/lang/StringUTF16" "$assertionsDisabled" "Z" (.int 1)) (Sh : Sta Z Z.heap "java/lang/StringUTF16" "HI_BYTE_SHIFT" "I" (.int 0)) (Sl : Sta Z Z.heap "java/lang/StringUTF16" "LO_BYTE_SHIFT" "I" (.int 8)) (O0 : Old Z n0 h0) : Con l Z (⟨"java/lang/String", "<init>", "([CIILjava/lang/Void;)V"⟩ : MethodName) jdk_42_method_149_code 6 none [] ({ frames := 4, cells := 2, slots := 9, locals := 66 } : Room) 2 9 #[(.ref b1), (.ref a1), (.int (0 : Int32)), (.int (3 : Int32)), .null] h0 (fun v h L => v = none ∧ Fr n0 L ∧ Keep h0 h [b1] ∧ ∃ t k z vs, Fld Z h b1 "java/lang/String" "value" "[B" (.ref t) ∧ Arv Z h t k .byte z vs (.int 0) ∧ ¬ z = 0) := by
  refine Con.intro (plainFor_of_name pn_1) ?_
  intro p e s m below meth c s₁ X0 hx hby hml hZ hown hnm hret hlk e0 hs0
  refine Gl.of (fun _ kq_ => castTop (ef_25 m b1 a1 (0 : Int32) (3 : Int32) ) kq_) ?_
  have K0 := Keep.refl h0 [b1]
  show Gl p e below _ (s₁.setTop (mkF m 0 #[.val (.ref b1), .val (.ref a1), .val (.int (0 : Int32)), .val (.int (3 : Int32)), .val .null, .unset] []))
  refine Gl.of (fun _ kq_ => XS.aloadN X0.here hx rfl (hb hby d3_0) rfl rfl kq_) ?_
  show Gl p e below _ (s₁.setTop (mkF m 1 #[.val (.ref b1), .val (.ref a1), .val (.int (0 : Int32)), .val (.int (3 : Int32)), .val .null, .unset] [(.ref b1)]))
  obtain ⟨T1, X1, e1, st1⟩ := initO X0 hx hZ hown (w16 hw) (w17 hw) (w18 hw) e0 (g := (mkF m 1 #[.val (.ref b1), .val (.ref a1), .val (.int (0 : Int32)), .val (.int (3 : Int32)), .val .null, .unset] [(.ref b1)])) rfl (by rw [hml]; rfl) rfl (hb hby d3_1) (by decide) (W := 0) (by show 2 * 0 + _ ≤ _; exact Nat.le_of_eq rfl) (by decide)
  refine Gl.of st1 ?_
  show Gl p e below _ (T1.setTop (mkF m 4 #[.val (.ref b1), .val (.ref a1), .val (.int (0 : Int32)), .val (.int (3 : Int32)), .val .null, .unset] []))
  refine Gl.of (fun _ kq_ => XS.iloadN X1.here hx rfl (hb hby d3_4) rfl kq_) ?_
  show Gl p e below _ (T1.setTop (mkF m 5 #[.val (.ref b1), .val (.ref a1), .val (.int (0 : Int32)), .val (.int (3 : Int32)), .val .null, .unset] [(.int (3 : Int32))]))
  refine Gl.of (fun _ kq_ => XS.ifYes X1.here hx rfl (pc0 := 5) (pc' := 27) rfl (hb hby d3_5) rfl ((if0 _ _).trans (feq (by decide : ¬ ((3 : Int32) = (0 : Int32)))).2) (by decide) (by decide) kq_) ?_
  show Gl p e below _ (T1.setTop (mkF m 27 #[.val (.ref b1), .val (.ref a1), .val (.int (0 : Int32)), .val (.int (3 : Int32)), .val .null, .unset] []))
  obtain ⟨T2, X2, e2, st2⟩ := getS2 X1 hx hZ hown (host := "") (Or.inl (w75 hw)) Via.refl e1 (SC.ext O0.2) (g := (mkF m 27 #[.val (.ref b1), .val (.ref a1), .val (.int (0 : Int32)), .val (.int (3 : Int32)), .val .null, .unset] [])) rfl (hb hby d3_27)
  refine Gl.of st2 ?_
  show Gl p e below _ (T2.setTop (mkF m 30 #[.val (.ref b1), .val (.ref a1), .val (.int (0 : Int32)), .val (.int (3 : Int32)), .val .null, .unset] [(.int cz)]))
  refine Gl.of (fun _ kq_ => XS.ifNo X2.here hx rfl (hb hby d3_30) rfl ((if0 _ _).trans (feq hcz).1) kq_) ?_
  show Gl p e below _ (T2.setTop (mkF m 33 #[.val (.ref b1), .val (.ref a1), .val (.int (0 : Int32)), .val (.int (3 : Int32)), .val .null, .unset] []))
  refine Gl.of (fun _ kq_ => XS.aloadN X2.here hx rfl (hb hby d3_33) rfl rfl kq_) ?_
  show Gl p e below _ (T2.setTop (mkF m 34 #[.val (.ref b1), .val (.ref a1), .val (.int (0 : Int32)), .val (.int (3 : Int32)), .val .null, .unset] [(.ref a1)]))
  refine Gl.of (fun _ kq_ => XS.iloadN X2.here hx rfl (hb hby d3_34) rfl kq_) ?_
  show Gl p e below _ (T2.setTop (mkF m 35 #[.val (.ref b1), .val (.ref a1), .val (.int (0 : Int32)), .val (.int (3 : Int32)), .val .null, .unset] [(.int (0 : Int32)), (.ref a1)]))
  refine Gl.of (fun _ kq_ => XS.iloadN X2.here hx rfl (hb hby d3_35) rfl kq_) ?_
  show Gl p e below _ (T2.setTop (mkF m 36 #[.val (.ref b1), .val (.ref a1), .val (.int (0 : Int32)), .val (.int (3 : Int32)), .val .null, .unset] [(.int (3 : Int32)), (.int (0 : Int32)), (.ref a1)]))
  refine Gl.callS X2 hx hZ (y := (⟨"java/lang/StringUTF16", "compress", "([CII)[B"⟩ : MethodName)) hown (w76 hw) (w77 hw) (w78 hw) (w79 hw) (desc_ne (by decide)) (rm := { frames := 3, cells := 2, slots := 9, locals := 45 }) (argsL := [(.ref a1), (.int (0 : Int32)), (.int (3 : Int32))]) (rest := []) (rmC3 l Z a0 hw _ a1 kk1 c0 c1 c2 n0 V1 hr0 hr1 hr2 Sa Sh Sl O0) 0 (by decide) (by decide) (by decide) (by decide) e2 (pc := 36) (Ls := #[.val (.ref b1), .val (.ref a1), .val (.int (0 : Int32)), .val (.int (3 : Int32)), .val .null, .unset]) (st := [(.int (3 : Int32)), (.int (0 : Int32)), (.ref a1)]) (by rw [hml]; rfl) pd_4 rfl rfl (Nat.le_of_eq rfl) (hb hby d3_36) ?_
  intro v3 T3 L3 X3 hQ3
  obtain ⟨r3, k3, z3, vs3, rfl, Vq3, hz3, Kq3, Nq3, Gr3, H3⟩ := hQ3
  have N3 := Fr.app (Fr.nil n0) Nq3
  have ne_a1_r3 : a1 ≠ r3 := Nat.ne_of_lt (Nat.lt_of_lt_of_le V1.lt H3)
  have ne_b1_r3 : b1 ≠ r3 := Nat.ne_of_lt (Nat.lt_of_lt_of_le E1.lt H3)
  have Jr3 : h0.size ≤ r3 := Nat.le_trans K0.1 H3
  have vc4 := V1.keep Kq3 (by simp)
  have ec5 := E1.keep Kq3
  have fc6 := Fv.keep Kq3 (by simp)
  have fc7 := Fc.keep Kq3 (by simp)
  have O3 := O0.keep Kq3 all0
  have K3 := K0.trans Kq3 (by intro x hx'; exact nomatch hx')
  show Gl p e below _ (T3.setTop (mkF m 39 #[.val (.ref b1), .val (.ref a1), .val (.int (0 : Int32)), .val (.int (3 : Int32)), .val .null, .unset] [(.ref r3)]))
  refine Gl.of (fun _ kq_ => XS.astore X3.here hx rfl (hb hby d3_39) rfl rfl (l' := #[.val (.ref b1), .val (.ref a1), .val (.int (0 : Int32)), .val (.int (3 : Int32)), .val .null, .val (.ref r3)]) rfl kq_) ?_
  show Gl p e below _ (T3.setTop (mkF m 41 #[.val (.ref b1), .val (.ref a1), .val (.int (0 : Int32)), .val (.int (3 : Int32)), .val .null, .val (.ref r3)] []))
  refine Gl.of (fun _ kq_ => XS.aloadN X3.here hx rfl (hb hby d3_41) rfl rfl kq_) ?_
  show Gl p e below _ (T3.setTop (mkF m 42 #[.val (.ref b1), .val (.ref a1), .val (.int (0 : Int32)), .val (.int (3 : Int32)), .val .null, .val (.ref r3)] [(.ref b1)]))
  refine Gl.of (fun _ kq_ => XS.aload X3.here hx rfl (hb hby d3_42) rfl rfl kq_) ?_
  show Gl p e below _ (T3.setTop (mkF m 44 #[.val (.ref b1), .val (.ref a1), .val (.int (0 : Int32)), .val (.int (3 : Int32)), .val .null, .val (.ref r3)] [(.ref r3), (.ref b1)]))
  refine Gl.of (fun _ kq_ => XS.iloadN X3.here hx rfl (hb hby d3_44) rfl kq_) ?_
  show Gl p e below _ (T3.setTop (mkF m 45 #[.val (.ref b1), .val (.ref a1), .val (.int (0 : Int32)), .val (.int (3 : Int32)), .val .null, .val (.ref r3)] [(.int (3 : Int32)), (.ref r3), (.ref b1)]))
  refine Gl.callS0 X3 hx hZ (y := (⟨"java/lang/StringUTF16", "coderFromArrayLen", "([BI)B"⟩ : MethodName)) hown (w102 hw) (w103 hw) (w78 hw) (w104 hw) (desc_ne (by decide)) (argsL := [(.ref r3), (.int (3 : Int32))]) (rest := [(.ref b1)]) (rmZ l Z a0 hw _ r3 k3 z3 (3 : Int32) vs3 Vq3) 1 (by decide) (by decide) rfl (pc := 45) (Ls := #[.val (.ref b1), .val (.ref a1), .val (.int (0 : Int32)), .val (.int (3 : Int32)), .val .null, .val (.ref r3)]) (st := [(.int (3 : Int32)), (.ref r3), (.ref b1)]) (by rw [hml]; rfl) pd_6 rfl rfl (Nat.le_of_eq rfl) (hb hby d3_45) (by decide) (by decide) ?_
  intro v8 T8 X8 e8 hv8
  obtain ⟨cd8, rfl⟩ := hv8
  show Gl p e below _ (T8.setTop (mkF m 48 #[.val (.ref b1), .val (.ref a1), .val (.int (0 : Int32)), .val (.int (3 : Int32)), .val .null, .val (.ref r3)] [(.int cd8), (.ref b1)]))
  obtain ⟨T9, h9, X9, e9, W9, st9⟩ := putFN X8 hx hZ hown (w26 hw) Via.refl e8 fc7 ec5 (Or.inr ⟨(w22 hw), rfl, hnm⟩) (w6 hw) (ty := .byte) (v' := (.int (nar .byte cd8))) (by decide) rfl (fits_nar_byte _) (g := (mkF m 48 #[.val (.ref b1), .val (.ref a1), .val (.int (0 : Int32)), .val (.int (3 : Int32)), .val .null, .val (.ref r3)] [(.int cd8), (.ref b1)])) rfl rfl (hb hby d3_48)
  refine Gl.of st9 ?_
  have F9 : Fld Z h9 b1 "java/lang/String" "coder" "B" (.int (nar .byte cd8)) := fc7.same W9
  have vc10 := vc4.other W9 hab
  have ec11 := ec5.wr W9
  have fc12 := fc6.other W9 (Or.inr (slot_ne (Or.inr (w21 hw)) (Or.inr (w22 hw)) (by decide) (t := (.array .byte)) (t' := .byte) (by decide) (by decide)))
  have vc13 := Vq3.other W9 ne_b1_r3.symm
  have N9 := Fr.snoc X9 N3 Gb1
  have O9 := O3.wr W9 Gb1
  have K9 := K3.wr W9 (Or.inl (List.mem_of_getElem? (i := 0) rfl))
  show Gl p e below _ (T9.setTop (mkF m 51 #[.val (.ref b1), .val (.ref a1), .val (.int (0 : Int32)), .val (.int (3 : Int32)), .val .null, .val (.ref r3)] []))
  refine Gl.of (fun _ kq_ => XS.aloadN X9.here hx rfl (hb hby d3_51) rfl rfl kq_) ?_
  show Gl p e below _ (T9.setTop (mkF m 52 #[.val (.ref b1), .val (.ref a1), .val (.int (0 : Int32)), .val (.int (3 : Int32)), .val .null, .val (.ref r3)] [(.ref b1)]))
  refine Gl.of (fun _ kq_ => XS.aload X9.here hx rfl (hb hby d3_52) rfl rfl kq_) ?_
  show Gl p e below _ (T9.setTop (mkF m 54 #[.val (.ref b1), .val (.ref a1), .val (.int (0 : Int32)), .val (.int (3 : Int32)), .val .null, .val (.ref r3)] [(.ref r3), (.ref b1)]))
  obtain ⟨T14, h14, X14, e14, W14, st14⟩ := putF X9 hx hZ hown (host := "") (Or.inl (w25 hw)) Via.refl e9 fc12 ec11 (Or.inr ⟨(w21 hw), rfl, hnm⟩) (w6 hw) (ty := (.array .byte)) (by decide) rfl rfl (g := (mkF m 54 #[.val (.ref b1), .val (.ref a1), .val (.int (0 : Int32)), .val (.int (3 : Int32)), .val .null, .val (.ref r3)] [(.ref r3), (.ref b1)])) rfl rfl (hb hby d3_54)
  refine Gl.of st14 ?_
  have F14 : Fld Z h14 b1 "java/lang/String" "value" "[B" (.ref r3) := fc12.same W14
  have vc15 := vc10.other W14 hab
  have ec16 := ec11.wr W14
  have vc17 := vc13.other W14 ne_b1_r3.symm
  have fc18 := F9.other W14 (Or.inr (slot_ne (Or.inr (w22 hw)) (Or.inr (w21 hw)) (by decide) (t := .byte) (t' := (.array .byte)) (by decide) (by decide)))
  have N14 := Fr.snoc X14 N9 Gb1
  have O14 := O9.wr W14 Gb1
  have K14 := K9.wr W14 (Or.inl (List.mem_of_getElem? (i := 0) rfl))
  show Gl p e below _ (T14.setTop (mkF m 57 #[.val (.ref b1), .val (.ref a1), .val (.int (0 : Int32)), .val (.int (3 : Int32)), .val .null, .val (.ref r3)] []))
  exact Gl.ret0 X14 hx hlk hret (hb hby d3_57) e14 (⟨rfl, N14, K14, _, _, _, _, F14, vc17, hz3⟩) (by decide) (by decide)
theorem ef_26 (m : MethodId) (x0 : Addr) (x1 : Addr) : entryFrame m #[(.ref x0), (.ref x1)] 2 = mkF m 0 #[.val (.ref x0), .val (.ref x1)] [] := by first | (simp [entryFrame, mkF, argsToLocals, Value.category, maxLocals]; done) | rfl
set_option maxRecDepth 65536 in
set_option maxHeartbeats 40000000 in
theorem rmJ3 (l : Launch) (Z : State) (a0 : Array Value) (hw : ∀ d ∈ tables_1, d.before a0 Z = true) (h0 : Heap) (b1 a1 : Addr) (kk1 : ClassId) (c0 c1 c2 : Int32) (cz : Int32) (n0 : Nat) (E1 : Exa Z h0 b1 "java/lang/String") (Fv : Fld Z h0 b1 "java/lang/String" "value" "[B" .null) (Fc : Fld Z h0 b1 "java/lang/String" "coder" "B" (.int 0)) (Gb1 : n0 ≤ b1) (V1 : Arv Z h0 a1 kk1 .char (3 : Int32) [.int c0, .int c1, .int c2] (.int 0)) (hab : ¬ a1 = b1) (hr0 : own_rg c0) (hr1 : own_rg c1) (hr2 : own_rg c2) (SC : Sta Z Z.heap "java/lang/String" "COMPACT_STRINGS" "Z" (.int cz)) (hcz : ¬ cz = 0) (Sa : Sta Z Z.heap "java/lang/StringUTF16" "$assertionsDisabled" "Z" (.int 1)) (Sh : Sta Z Z.heap "java/lang/StringUTF16" "HI_BYTE_SHIFT" "I" (.int 0)) (Sl : Sta Z Z.heap "java/lang/StringUTF16" "LO_BYTE_SHIFT" "I" (.int 8)) (O0 : Old Z n0 h0) : Con l Z (⟨"java/lang/String", "<init>", "([C)V"⟩ : MethodName) jdk_42_method_3_code 2 none [] ({ frames := 5, cells := 2, slots := 9, locals := 84 } : Room) 2 9 #[(.ref b1), (.ref a1)] h0 (fun v h L => v = none ∧ Fr n0 L ∧ Keep h0 h [b1] ∧ ∃ t k z vs, Fld Z h b1 "java/lang/String" "value" "[B" (.ref t) ∧ Arv Z h t k .byte z vs (.int 0) ∧ ¬ z = 0) := by
  refine Con.intro (plainFor_of_name pn_1) ?_
  intro p e s m below meth c s₁ X0 hx hby hml hZ hown hnm hret hlk e0 hs0
  refine Gl.of (fun _ kq_ => castTop (ef_26 m b1 a1) kq_) ?_
  have K0 := Keep.refl h0 [b1]
  show Gl p e below _ (s₁.setTop (mkF m 0 #[.val (.ref b1), .val (.ref a1)] []))
  refine Gl.of (fun _ kq_ => XS.aloadN X0.here hx rfl (hb hby d2_0) rfl rfl kq_) ?_
  show Gl p e below _ (s₁.setTop (mkF m 1 #[.val (.ref b1), .val (.ref a1)] [(.ref b1)]))
  refine Gl.of (fun _ kq_ => XS.aloadN X0.here hx rfl (hb hby d2_1) rfl rfl kq_) ?_
  show Gl p e below _ (s₁.setTop (mkF m 2 #[.val (.ref b1), .val (.ref a1)] [(.ref a1), (.ref b1)]))
  refine Gl.of (fun _ kq_ => XS.iconst X0.here hx rfl (hb hby d2_2) kq_) ?_
  show Gl p e below _ (s₁.setTop (mkF m 3 #[.val (.ref b1), .val (.ref a1)] [(.int (0 : Int32)), (.ref a1), (.ref b1)]))
  refine Gl.of (fun _ kq_ => XS.aloadN X0.here hx rfl (hb hby d2_3) rfl rfl kq_) ?_
  show Gl p e below _ (s₁.setTop (mkF m 4 #[.val (.ref b1), .val (.ref a1)] [(.ref a1), (.int (0 : Int32)), (.ref a1), (.ref b1)]))
  obtain ⟨zcl1, zAr1, zq1, zS1, zM1, zH1, zG1⟩ := id V1
  refine Gl.of (fun _ kq_ => X0.arraylength hx (by rw [e0]; exact (zAr1).1) (State.isArrayOf_alike hZ.alike (zAr1).2.1) (g := (mkF m 4 #[.val (.ref b1), .val (.ref a1)] [(.ref a1), (.int (0 : Int32)), (.ref a1), (.ref b1)])) rfl rfl (hb hby d2_4) _ kq_) ?_
  rw [len_of zS1 (by decide)]
  show Gl p e below _ (s₁.setTop (mkF m 5 #[.val (.ref b1), .val (.ref a1)] [(.int (3 : Int32)), (.int (0 : Int32)), (.ref a1), (.ref b1)]))
  refine Gl.of (fun _ kq_ => XS.aconstNull X0.here hx rfl (hb hby d2_5) kq_) ?_
  show Gl p e below _ (s₁.setTop (mkF m 6 #[.val (.ref b1), .val (.ref a1)] [.null, (.int (3 : Int32)), (.int (0 : Int32)), (.ref a1), (.ref b1)]))
  refine Gl.callI X0 hx hZ (y := (⟨"java/lang/String", "<init>", "([CIILjava/lang/Void;)V"⟩ : MethodName)) rfl hown (w12 hw) (w13 hw) (w7 hw) (w15 hw) (desc_ne (by decide)) (rm := { frames := 4, cells := 2, slots := 9, locals := 66 }) (b := b1) (argsL := [(.ref a1), (.int (0 : Int32)), (.int (3 : Int32)), .null]) (rest := []) (rmI3 l Z a0 hw _ b1 a1 kk1 c0 c1 c2 cz n0 E1 Fv Fc Gb1 V1 hab hr0 hr1 hr2 SC hcz Sa Sh Sl O0) 0 (by decide) (by decide) (by decide) (by decide) e0 (pc := 6) (Ls := #[.val (.ref b1), .val (.ref a1)]) (st := [.null, (.int (3 : Int32)), (.int (0 : Int32)), (.ref a1), (.ref b1)]) (by rw [hml]; rfl) pd_7 rfl rfl (Nat.le_of_eq rfl) (hb hby d2_6) ?_
  intro v2 T2 L2 X2 hQ2
  obtain ⟨rfl, Nq2, Kq2, t2, k2, z2, vs2, Fq2, Vq2, hz2⟩ := hQ2
  have N2 := Fr.app (Fr.nil n0) Nq2
  have vc3 := V1.keep Kq2 (fun q => hab (List.mem_singleton.mp q))
  have ec4 := E1.keep Kq2
  have O2 := O0.keep Kq2 (allS Gb1 all0)
  have K2 := K0.trans Kq2 (by intro x hx'; cases List.mem_singleton.mp hx'; exact Or.inl (List.mem_of_getElem? (i := 0) rfl))
  show Gl p e below _ (T2.setTop (mkF m 9 #[.val (.ref b1), .val (.ref a1)] []))
  exact Gl.ret0 X2 hx hlk hret (hb hby d2_9) rfl (⟨rfl, N2, K2, _, _, _, _, Fq2, Vq2, hz2⟩) (by decide) (by decide)
theorem ef_27 (m : MethodId) (x0 : Addr) (x1 : Addr) (x2 : Int32) (x3 : Int32)  : entryFrame m #[(.ref x0), (.ref x1), (.int x2), (.int x3), .null] 6 = mkF m 0 #[.val (.ref x0), .val (.ref x1), .val (.int x2), .val (.int x3), .val .null, .unset] [] := by first | (simp [entryFrame, mkF, argsToLocals, Value.category, maxLocals]; done) | rfl
theorem d3_8 : decode jdk_42_method_149_code 8 = .ok (.aload_n 0, 1) := by decide +kernel
theorem d3_9 : decode jdk_42_method_149_code 9 = .ok (.ldc 7, 2) := by decide +kernel
theorem d3_11 : decode jdk_42_method_149_code 11 = .ok (.getfield 9, 3) := by decide +kernel
theorem d3_14 : decode jdk_42_method_149_code 14 = .ok (.putfield 9, 3) := by decide +kernel
theorem d3_17 : decode jdk_42_method_149_code 17 = .ok (.aload_n 0, 1) := by decide +kernel
theorem d3_18 : decode jdk_42_method_149_code 18 = .ok (.ldc 7, 2) := by decide +kernel
theorem d3_20 : decode jdk_42_method_149_code 20 = .ok (.getfield 15, 3) := by decide +kernel
theorem d3_23 : decode jdk_42_method_149_code 23 = .ok (.putfield 15, 3) := by decide +kernel
theorem d3_26 : decode jdk_42_method_149_code 26 = .ok (.return_, 1) := by decide +kernel
set_option maxRecDepth 65536 in
set_option maxHeartbeats 40000000 in
theorem rmI0 (l : Launch) (Z : State) (a0 : Array Value) (hw : ∀ d ∈ tables_1, d.before a0 Z = true) (h0 : Heap) (b1 a1 : Addr) (kk1 : ClassId) (n0 : Nat) (E1 : Exa Z h0 b1 "java/lang/String") (Fv : Fld Z h0 b1 "java/lang/String" "value" "[B" .null) (Fc : Fld Z h0 b1 "java/lang/String" "coder" "B" (.int 0)) (Gb1 : n0 ≤ b1) (V1 : Arv Z h0 a1 kk1 .char (0 : Int32) [] (.int 0)) (hab : ¬ a1 = b1) (O0 : Old Z n0 h0) : ConE l Z own_EL (⟨"java/lang/String", "<init>", "([CIILjava/lang/Void;)V"⟩ : MethodName) jdk_42_method_149_code 6 none [] ({ frames := 1, cells := 2, slots := 4, locals := 12 } : Room) 2 4 #[(.ref b1), (.ref a1), (.int (0 : Int32)), (.int (0 : Int32)), .null] h0 (fun v h L => v = none ∧ Fr n0 L ∧ Keep h0 h [b1] ∧ ∃ t k z vs, Fld Z h b1 "java/lang/String" "value" "[B" (.ref t) ∧ Arv Z h t k .byte z vs (.int 0) ∧ z = 0) := by
  refine ConE.intro (plainFor_of_name pn_1) ?_
  intro p e s m below meth c s₁ X0 hx hby hml hZ hown hnm hret hlk e0 hs0 hR0
  refine Gl.of (fun _ kq_ => castTop (ef_27 m b1 a1 (0 : Int32) (0 : Int32) ) kq_) ?_
  have hS0 := (State.WarmedH.refl s).since 0
  have hk0 : 0 ≤ h0.size := Nat.zero_le _
  have K0 := Keep.refl h0 [b1]
  show Gl p e below _ (s₁.setTop (mkF m 0 #[.val (.ref b1), .val (.ref a1), .val (.int (0 : Int32)), .val (.int (0 : Int32)), .val .null, .unset] []))
  refine Gl.of (fun _ kq_ => XS.aloadN X0.here hx rfl (hb hby d3_0) rfl rfl kq_) ?_
  show Gl p e below _ (s₁.setTop (mkF m 1 #[.val (.ref b1), .val (.ref a1), .val (.int (0 : Int32)), .val (.int (0 : Int32)), .val .null, .unset] [(.ref b1)]))
  obtain ⟨T1, X1, e1, st1⟩ := initO X0 hx hZ hown (w16 hw) (w17 hw) (w18 hw) e0 (g := (mkF m 1 #[.val (.ref b1), .val (.ref a1), .val (.int (0 : Int32)), .val (.int (0 : Int32)), .val .null, .unset] [(.ref b1)])) rfl (by rw [hml]; rfl) rfl (hb hby d3_1) (by decide) (W := 0) (by show 2 * 0 + _ ≤ _; exact Nat.le_of_eq rfl) (by decide)
  refine Gl.of st1 ?_
  show Gl p e below _ (T1.setTop (mkF m 4 #[.val (.ref b1), .val (.ref a1), .val (.int (0 : Int32)), .val (.int (0 : Int32)), .val .null, .unset] []))
  refine Gl.of (fun _ kq_ => XS.iloadN X1.here hx rfl (hb hby d3_4) rfl kq_) ?_
  show Gl p e below _ (T1.setTop (mkF m 5 #[.val (.ref b1), .val (.ref a1), .val (.int (0 : Int32)), .val (.int (0 : Int32)), .val .null, .unset] [(.int (0 : Int32))]))
  refine Gl.of (fun _ kq_ => XS.ifNo X1.here hx rfl (hb hby d3_5) rfl ((if0 _ _).trans (teq (by decide : (0 : Int32) = (0 : Int32))).2) kq_) ?_
  show Gl p e below _ (T1.setTop (mkF m 8 #[.val (.ref b1), .val (.ref a1), .val (.int (0 : Int32)), .val (.int (0 : Int32)), .val .null, .unset] []))
  refine Gl.of (fun _ kq_ => XS.aloadN X1.here hx rfl (hb hby d3_8) rfl rfl kq_) ?_
  show Gl p e below _ (T1.setTop (mkF m 9 #[.val (.ref b1), .val (.ref a1), .val (.int (0 : Int32)), .val (.int (0 : Int32)), .val .null, .unset] [(.ref b1)]))
  obtain ⟨b2, T2, h2, k2, t2, kb2, X2, e2, E2, hS2, hk2, hZ, hown, Ea2, Ca2, Va2, Ba2, -, -, rr2, Li2, sf2, st2⟩ := ldcCH X1 hx hZ hown (w19 hw) (own_str hw) e1 hS0 hk0 (own_el hw) (by decide) hR0.1 (vs := (own_emp.map (fun c => c.toInt8.toInt32)).map Value.int) (z := Int32.ofNat own_emp.length) ⟨by decide, rfl⟩ (by decide) (by decide) (g := (mkF m 9 #[.val (.ref b1), .val (.ref a1), .val (.int (0 : Int32)), .val (.int (0 : Int32)), .val .null, .unset] [(.ref b1)])) rfl (hb hby d3_9) (n := 0) (by decide) (by decide) (by decide) (by decide)
  refine Gl.of st2 ?_
  have hR2 := hR0.trans rr2
  have SG2 : Strg Z h2 b2 t2 kb2 own_emp := ⟨Ea2, Va2, Ca2, Ba2, by decide, by decide⟩
  have vc3 := V1.ext E2
  have ec4 := E1.ext E2
  have fc5 := Fv.ext E2
  have fc6 := Fc.ext E2
  have O2 := O0.ext E2
  have K2 := K0.ext E2
  have nx_ : ¬ b2 = b1 := fld_ne SG2.2.1 fc5 (by simp)
  have nt_ : ¬ t2 = b1 := own_arx ec4 SG2.2.2.2.1 (w6 hw)
  show Gl p e below _ (T2.setTop (mkF m 11 #[.val (.ref b1), .val (.ref a1), .val (.int (0 : Int32)), .val (.int (0 : Int32)), .val .null, .unset] [(.ref b2), (.ref b1)]))
  obtain ⟨T7, X7, e7, st7⟩ := getF X2 hx hZ hown (host := "") (Or.inl (w25 hw)) Via.refl e2 SG2.2.1 (g := (mkF m 11 #[.val (.ref b1), .val (.ref a1), .val (.int (0 : Int32)), .val (.int (0 : Int32)), .val .null, .unset] [(.ref b2), (.ref b1)])) rfl rfl (hb hby d3_11)
  refine Gl.of st7 ?_
  show Gl p e below _ (T7.setTop (mkF m 14 #[.val (.ref b1), .val (.ref a1), .val (.int (0 : Int32)), .val (.int (0 : Int32)), .val .null, .unset] [(.ref t2), (.ref b1)]))
  obtain ⟨T8, h8, X8, e8, W8, st8⟩ := putF X7 hx hZ hown (host := "") (Or.inl (w25 hw)) Via.refl e7 fc5 ec4 (Or.inr ⟨(w21 hw), rfl, hnm⟩) (w6 hw) (ty := (.array .byte)) (by decide) rfl rfl (g := (mkF m 14 #[.val (.ref b1), .val (.ref a1), .val (.int (0 : Int32)), .val (.int (0 : Int32)), .val .null, .unset] [(.ref t2), (.ref b1)])) rfl rfl (hb hby d3_14)
  refine Gl.of st8 ?_
  have F8 : Fld Z h8 b1 "java/lang/String" "value" "[B" (.ref t2) := fc5.same W8
  have vc9 := vc3.other W8 hab
  have ec10 := ec4.wr W8
  have fc11 := fc6.other W8 (Or.inr (slot_ne (Or.inr (w22 hw)) (Or.inr (w21 hw)) (by decide) (t := .byte) (t' := (.array .byte)) (by decide) (by decide)))
  have fc12 := SG2.2.1.other W8 (Or.inl nx_)
  have fc13 := SG2.2.2.1.other W8 (Or.inl nx_)
  have vc14 := SG2.2.2.2.1.other W8 nt_
  have N8 := Fr.snoc X8 (Fr.nil n0) Gb1
  have O8 := O2.wr W8 Gb1
  have K8 := K2.wr W8 (Or.inl (List.mem_of_getElem? (i := 0) rfl))
  have hk8 := Nat.le_trans hk2 (Keep.of_wr W8).1
  show Gl p e below _ (T8.setTop (mkF m 17 #[.val (.ref b1), .val (.ref a1), .val (.int (0 : Int32)), .val (.int (0 : Int32)), .val .null, .unset] []))
  refine Gl.of (fun _ kq_ => XS.aloadN X8.here hx rfl (hb hby d3_17) rfl rfl kq_) ?_
  refine Gl.of (ldcAgain X8 hx hZ hown (w19 hw) Li2 (g := (mkF m 18 #[.val (.ref b1), .val (.ref a1), .val (.int (0 : Int32)), .val (.int (0 : Int32)), .val .null, .unset] [(.ref b1)])) rfl (hb hby d3_18)) ?_
  show Gl p e below _ (T8.setTop (mkF m 20 #[.val (.ref b1), .val (.ref a1), .val (.int (0 : Int32)), .val (.int (0 : Int32)), .val .null, .unset] [(.ref b2), (.ref b1)]))
  obtain ⟨T15, X15, e15, st15⟩ := getF X8 hx hZ hown (host := "") (Or.inl (w26 hw)) Via.refl e8 fc13 (g := (mkF m 20 #[.val (.ref b1), .val (.ref a1), .val (.int (0 : Int32)), .val (.int (0 : Int32)), .val .null, .unset] [(.ref b2), (.ref b1)])) rfl rfl (hb hby d3_20)
  refine Gl.of st15 ?_
  show Gl p e below _ (T15.setTop (mkF m 23 #[.val (.ref b1), .val (.ref a1), .val (.int (0 : Int32)), .val (.int (0 : Int32)), .val .null, .unset] [(.int (0 : Int32)), (.ref b1)]))
  obtain ⟨T16, h16, X16, e16, W16, st16⟩ := putFN X15 hx hZ hown (w26 hw) Via.refl e15 fc11 ec10 (Or.inr ⟨(w22 hw), rfl, hnm⟩) (w6 hw) (ty := .byte) (v' := (.int (nar .byte (0 : Int32)))) (by decide) rfl (fits_nar_byte _) (g := (mkF m 23 #[.val (.ref b1), .val (.ref a1), .val (.int (0 : Int32)), .val (.int (0 : Int32)), .val .null, .unset] [(.int (0 : Int32)), (.ref b1)])) rfl rfl (hb hby d3_23)
  refine Gl.of st16 ?_
  have F16 : Fld Z h16 b1 "java/lang/String" "coder" "B" (.int (nar .byte (0 : Int32))) := fc11.same W16
  have vc17 := vc9.other W16 hab
  have ec18 := ec10.wr W16
  have fc19 := fc12.other W16 (Or.inl nx_)
  have fc20 := fc13.other W16 (Or.inl nx_)
  have vc21 := vc14.other W16 nt_
  have fc22 := F8.other W16 (Or.inr (slot_ne (Or.inr (w21 hw)) (Or.inr (w22 hw)) (by decide) (t := (.array .byte)) (t' := .byte) (by decide) (by decide)))
  have N16 := Fr.snoc X16 N8 Gb1
  have O16 := O8.wr W16 Gb1
  have K16 := K8.wr W16 (Or.inl (List.mem_of_getElem? (i := 0) rfl))
  have hk16 := Nat.le_trans hk8 (Keep.of_wr W16).1
  show Gl p e below _ (T16.setTop (mkF m 26 #[.val (.ref b1), .val (.ref a1), .val (.int (0 : Int32)), .val (.int (0 : Int32)), .val .null, .unset] []))
  exact Gl.ret0W X16 hx hlk hret (hb hby d3_26) e16 (⟨rfl, N16, K16, _, _, _, _, fc22, vc21, rfl⟩) hS2 hk16 (by decide) (by decide)
theorem ef_28 (m : MethodId) (x0 : Addr) (x1 : Addr) : entryFrame m #[(.ref x0), (.ref x1)] 2 = mkF m 0 #[.val (.ref x0), .val (.ref x1)] [] := by first | (simp [entryFrame, mkF, argsToLocals, Value.category, maxLocals]; done) | rfl
set_option maxRecDepth 65536 in
set_option maxHeartbeats 40000000 in
theorem rmJ0 (l : Launch) (Z : State) (a0 : Array Value) (hw : ∀ d ∈ tables_1, d.before a0 Z = true) (h0 : Heap) (b1 a1 : Addr) (kk1 : ClassId) (n0 : Nat) (E1 : Exa Z h0 b1 "java/lang/String") (Fv : Fld Z h0 b1 "java/lang/String" "value" "[B" .null) (Fc : Fld Z h0 b1 "java/lang/String" "coder" "B" (.int 0)) (Gb1 : n0 ≤ b1) (V1 : Arv Z h0 a1 kk1 .char (0 : Int32) [] (.int 0)) (hab : ¬ a1 = b1) (O0 : Old Z n0 h0) : ConE l Z own_EL (⟨"java/lang/String", "<init>", "([C)V"⟩ : MethodName) jdk_42_method_3_code 2 none [] ({ frames := 2, cells := 2, slots := 4, locals := 30 } : Room) 2 4 #[(.ref b1), (.ref a1)] h0 (fun v h L => v = none ∧ Fr n0 L ∧ Keep h0 h [b1] ∧ ∃ t k z vs, Fld Z h b1 "java/lang/String" "value" "[B" (.ref t) ∧ Arv Z h t k .byte z vs (.int 0) ∧ z = 0) := by
  refine ConE.intro (plainFor_of_name pn_1) ?_
  intro p e s m below meth c s₁ X0 hx hby hml hZ hown hnm hret hlk e0 hs0 hR0
  refine Gl.of (fun _ kq_ => castTop (ef_28 m b1 a1) kq_) ?_
  have hS0 := (State.WarmedH.refl s).since 0
  have hk0 : 0 ≤ h0.size := Nat.zero_le _
  have K0 := Keep.refl h0 [b1]
  show Gl p e below _ (s₁.setTop (mkF m 0 #[.val (.ref b1), .val (.ref a1)] []))
  refine Gl.of (fun _ kq_ => XS.aloadN X0.here hx rfl (hb hby d2_0) rfl rfl kq_) ?_
  show Gl p e below _ (s₁.setTop (mkF m 1 #[.val (.ref b1), .val (.ref a1)] [(.ref b1)]))
  refine Gl.of (fun _ kq_ => XS.aloadN X0.here hx rfl (hb hby d2_1) rfl rfl kq_) ?_
  show Gl p e below _ (s₁.setTop (mkF m 2 #[.val (.ref b1), .val (.ref a1)] [(.ref a1), (.ref b1)]))
  refine Gl.of (fun _ kq_ => XS.iconst X0.here hx rfl (hb hby d2_2) kq_) ?_
  show Gl p e below _ (s₁.setTop (mkF m 3 #[.val (.ref b1), .val (.ref a1)] [(.int (0 : Int32)), (.ref a1), (.ref b1)]))
  refine Gl.of (fun _ kq_ => XS.aloadN X0.here hx rfl (hb hby d2_3) rfl rfl kq_) ?_
  show Gl p e below _ (s₁.setTop (mkF m 4 #[.val (.ref b1), .val (.ref a1)] [(.ref a1), (.int (0 : Int32)), (.ref a1), (.ref b1)]))
  obtain ⟨zcl1, zAr1, zq1, zS1, zM1, zH1, zG1⟩ := id V1
  refine Gl.of (fun _ kq_ => X0.arraylength hx (by rw [e0]; exact (zAr1).1) (State.isArrayOf_alike hZ.alike (zAr1).2.1) (g := (mkF m 4 #[.val (.ref b1), .val (.ref a1)] [(.ref a1), (.int (0 : Int32)), (.ref a1), (.ref b1)])) rfl rfl (hb hby d2_4) _ kq_) ?_
  rw [len_of zS1 (by decide)]
  show Gl p e below _ (s₁.setTop (mkF m 5 #[.val (.ref b1), .val (.ref a1)] [(.int (0 : Int32)), (.int (0 : Int32)), (.ref a1), (.ref b1)]))
  refine Gl.of (fun _ kq_ => XS.aconstNull X0.here hx rfl (hb hby d2_5) kq_) ?_
  show Gl p e below _ (s₁.setTop (mkF m 6 #[.val (.ref b1), .val (.ref a1)] [.null, (.int (0 : Int32)), (.int (0 : Int32)), (.ref a1), (.ref b1)]))
  refine Gl.callIE X0 hx hZ hS0 hk0 (own_el hw) hR0 (y := (⟨"java/lang/String", "<init>", "([CIILjava/lang/Void;)V"⟩ : MethodName)) rfl hown (w12 hw) (w13 hw) (w7 hw) (w15 hw) (desc_ne (by decide)) (rm := { frames := 1, cells := 2, slots := 4, locals := 12 }) (b := b1) (argsL := [(.ref a1), (.int (0 : Int32)), (.int (0 : Int32)), .null]) (rest := []) (rmI0 l Z a0 hw _ b1 a1 kk1 n0 E1 Fv Fc Gb1 V1 hab O0) 0 (by decide) (by decide) (by decide) (by decide) e0 (pc := 6) (Ls := #[.val (.ref b1), .val (.ref a1)]) (st := [.null, (.int (0 : Int32)), (.int (0 : Int32)), (.ref a1), (.ref b1)]) (by rw [hml]; rfl) pd_7 rfl rfl (Nat.le_of_eq rfl) (hb hby d2_6) ?_
  intro v2 T2 L2 X2 hS2 hZ hown hQ2
  obtain ⟨rfl, Nq2, Kq2, t2, k2, z2, vs2, Fq2, Vq2, hz2⟩ := hQ2
  have N2 := Fr.app (Fr.nil n0) Nq2
  have vc3 := V1.keep Kq2 (fun q => hab (List.mem_singleton.mp q))
  have ec4 := E1.keep Kq2
  have O2 := O0.keep Kq2 (allS Gb1 all0)
  have K2 := K0.trans Kq2 (by intro x hx'; cases List.mem_singleton.mp hx'; exact Or.inl (List.mem_of_getElem? (i := 0) rfl))
  have hk2 := Nat.le_trans hk0 Kq2.1
  show Gl p e below _ (T2.setTop (mkF m 9 #[.val (.ref b1), .val (.ref a1)] []))
  exact Gl.ret0W X2 hx hlk hret (hb hby d2_9) rfl (⟨rfl, N2, K2, _, _, _, _, Fq2, Vq2, hz2⟩) hS2 (Nat.le_refl _) (by decide) (by decide)
theorem ef_29 (m : MethodId) (x0 : Int32) : entryFrame m #[(.int x0)] 1 = mkF m 0 #[.val (.int x0)] [] := by first | (simp [entryFrame, mkF, argsToLocals, Value.category, maxLocals]; done) | rfl
theorem pn_2 : plainName "java/lang/StringLatin1" = true := by first | (simp [plainName, overriddenIn]; done) | decide +kernel
theorem d20_0 : decode jdk_43_method_3_code 0 = .ok (.iload_n 0, 1) := by decide +kernel
theorem d20_1 : decode jdk_43_method_3_code 1 = .ok (.sipush 255, 3) := by decide +kernel
theorem d20_4 : decode jdk_43_method_3_code 4 = .ok (.if_icmp .gt 7, 3) := by decide +kernel
theorem d20_7 : decode jdk_43_method_3_code 7 = .ok (.iconst 1, 1) := by decide +kernel
theorem d20_8 : decode jdk_43_method_3_code 8 = .ok (.goto 4, 3) := by decide +kernel
theorem d20_12 : decode jdk_43_method_3_code 12 = .ok (.ireturn, 1) := by decide +kernel
set_option maxRecDepth 65536 in
set_option maxHeartbeats 40000000 in
theorem rmE1 (l : Launch) (Z : State) (a0 : Array Value) (hw : ∀ d ∈ tables_1, d.before a0 Z = true) (h0 : Heap) (p1 : Int32) (hc : ¬ (255 : Int32) < p1) : Con l Z (⟨"java/lang/StringLatin1", "canEncode", "(C)Z"⟩ : MethodName) jdk_43_method_3_code 1 (some .boolean) [] ({ frames := 0, cells := 0, slots := 0, locals := 0 } : Room) 0 0 #[(.int p1)] h0 (Pur (fun v => v = some (.int 1)) h0) := by
  refine Con.intro (plainFor_of_name pn_2) ?_
  intro p e s m below meth c s₁ X0 hx hby hml hZ hown hnm hret hlk e0 hs0
  refine Gl.of (fun _ kq_ => castTop (ef_29 m p1) kq_) ?_
  show Gl p e below _ (s₁.setTop (mkF m 0 #[.val (.int p1)] []))
  refine Gl.of (fun _ kq_ => XS.iloadN X0.here hx rfl (hb hby d20_0) rfl kq_) ?_
  show Gl p e below _ (s₁.setTop (mkF m 1 #[.val (.int p1)] [(.int p1)]))
  refine Gl.of (fun _ kq_ => XS.sipush X0.here hx rfl (hb hby d20_1) kq_) ?_
  show Gl p e below _ (s₁.setTop (mkF m 4 #[.val (.int p1)] [(.int (255 : Int32)), (.int p1)]))
  refine Gl.of (fun _ kq_ => XS.icmpNo X0.here hx rfl (hb hby d20_4) rfl (flt hc).2.2.1 kq_) ?_
  show Gl p e below _ (s₁.setTop (mkF m 7 #[.val (.int p1)] []))
  refine Gl.of (fun _ kq_ => XS.iconst X0.here hx rfl (hb hby d20_7) kq_) ?_
  show Gl p e below _ (s₁.setTop (mkF m 8 #[.val (.int p1)] [(.int (1 : Int32))]))
  refine Gl.of (fun _ kq_ => XS.goto X0.here hx rfl (pc0 := 8) (pc' := 12) rfl (hb hby d20_8) (by decide) (by decide) kq_) ?_
  show Gl p e below _ (s₁.setTop (mkF m 12 #[.val (.int p1)] [(.int (1 : Int32))]))
  exact Gl.retN X0 hx hlk hret (by simp) (hb hby d20_12) e0 (⟨rfl, rfl, rfl⟩) (by decide) (by decide)
theorem ef_30 (m : MethodId) (x0 : Int32) : entryFrame m #[(.int x0)] 1 = mkF m 0 #[.val (.int x0)] [] := by first | (simp [entryFrame, mkF, argsToLocals, Value.category, maxLocals]; done) | rfl
theorem d20_11 : decode jdk_43_method_3_code 11 = .ok (.iconst 0, 1) := by decide +kernel
set_option maxRecDepth 65536 in
set_option maxHeartbeats 40000000 in
theorem rmE0 (l : Launch) (Z : State) (a0 : Array Value) (hw : ∀ d ∈ tables_1, d.before a0 Z = true) (h0 : Heap) (p1 : Int32) (hc : (255 : Int32) < p1) : Con l Z (⟨"java/lang/StringLatin1", "canEncode", "(C)Z"⟩ : MethodName) jdk_43_method_3_code 1 (some .boolean) [] ({ frames := 0, cells := 0, slots := 0, locals := 0 } : Room) 0 0 #[(.int p1)] h0 (Pur (fun v => v = some (.int 0)) h0) := by
  refine Con.intro (plainFor_of_name pn_2) ?_
  intro p e s m below meth c s₁ X0 hx hby hml hZ hown hnm hret hlk e0 hs0
  refine Gl.of (fun _ kq_ => castTop (ef_30 m p1) kq_) ?_
  show Gl p e below _ (s₁.setTop (mkF m 0 #[.val (.int p1)] []))
  refine Gl.of (fun _ kq_ => XS.iloadN X0.here hx rfl (hb hby d20_0) rfl kq_) ?_
  show Gl p e below _ (s₁.setTop (mkF m 1 #[.val (.int p1)] [(.int p1)]))
  refine Gl.of (fun _ kq_ => XS.sipush X0.here hx rfl (hb hby d20_1) kq_) ?_
  show Gl p e below _ (s₁.setTop (mkF m 4 #[.val (.int p1)] [(.int (255 : Int32)), (.int p1)]))
  refine Gl.of (fun _ kq_ => XS.icmpYes X0.here hx rfl (pc0 := 4) (pc' := 11) rfl (hb hby d20_4) rfl (tlt hc).2.2.1 (by decide) (by decide) kq_) ?_
  show Gl p e below _ (s₁.setTop (mkF m 11 #[.val (.int p1)] []))
  refine Gl.of (fun _ kq_ => XS.iconst X0.here hx rfl (hb hby d20_11) kq_) ?_
  show Gl p e below _ (s₁.setTop (mkF m 12 #[.val (.int p1)] [(.int (0 : Int32))]))
  exact Gl.retN X0 hx hlk hret (by simp) (hb hby d20_12) e0 (⟨rfl, rfl, rfl⟩) (by decide) (by decide)
theorem ef_31 (m : MethodId) (x0 : Int32) : entryFrame m #[(.int x0)] 1 = mkF m 0 #[.val (.int x0)] [] := by first | (simp [entryFrame, mkF, argsToLocals, Value.category, maxLocals]; done) | rfl
theorem d21_0 : decode jdk_43_method_46_code 0 = .ok (.iconst 1, 1) := by decide +kernel
theorem d21_1 : decode jdk_43_method_46_code 1 = .ok (.newarray .byte, 2) := by decide +kernel
theorem d21_3 : decode jdk_43_method_46_code 3 = .ok (.dup, 1) := by decide +kernel
theorem d21_4 : decode jdk_43_method_46_code 4 = .ok (.iconst 0, 1) := by decide +kernel
theorem d21_5 : decode jdk_43_method_46_code 5 = .ok (.iload_n 0, 1) := by decide +kernel
theorem d21_6 : decode jdk_43_method_46_code 6 = .ok (.i2b, 1) := by decide +kernel
theorem d21_7 : decode jdk_43_method_46_code 7 = .ok (.bastore, 1) := by decide +kernel
theorem d21_8 : decode jdk_43_method_46_code 8 = .ok (.areturn, 1) := by decide +kernel
set_option maxRecDepth 65536 in
set_option maxHeartbeats 40000000 in
theorem rmT1 (l : Launch) (Z : State) (a0 : Array Value) (hw : ∀ d ∈ tables_1, d.before a0 Z = true) (h0 : Heap) (p1 : Int32) (n0 : Nat) (O0 : Old Z n0 h0) : Con l Z (⟨"java/lang/StringLatin1", "toBytes", "(C)[B"⟩ : MethodName) jdk_43_method_46_code 1 (some (.array .byte)) [] ({ frames := 0, cells := 1, slots := 1, locals := 0 } : Room) 1 1 #[(.int p1)] h0 (fun v h L => ∃ r k z vs, v = some (.ref r) ∧ Arv Z h r k .byte z vs (.int 0) ∧ ¬ z = 0 ∧ Keep h0 h [] ∧ Fr n0 L ∧ n0 ≤ r ∧ h0.size ≤ r) := by
  refine Con.intro (plainFor_of_name pn_2) ?_
  intro p e s m below meth c s₁ X0 hx hby hml hZ hown hnm hret hlk e0 hs0
  refine Gl.of (fun _ kq_ => castTop (ef_31 m p1) kq_) ?_
  have K0 := Keep.refl h0 []
  show Gl p e below _ (s₁.setTop (mkF m 0 #[.val (.int p1)] []))
  refine Gl.of (fun _ kq_ => XS.iconst X0.here hx rfl (hb hby d21_0) kq_) ?_
  show Gl p e below _ (s₁.setTop (mkF m 1 #[.val (.int p1)] [(.int (1 : Int32))]))
  obtain ⟨T1, h1, k1, X1, e1, E1, A1, st1⟩ := newP (aty := .byte) X0 hx hZ (w20 hw) e0 (g := (mkF m 1 #[.val (.int p1)] [(.int (1 : Int32))])) rfl (hb hby d21_1) rfl (by decide) (cap := 1) (by decide) (by decide) (by decide) (by decide)
  obtain ⟨b1, g1⟩ : ∃ z, z = h0.size := ⟨_, rfl⟩
  rw [← g1] at A1 st1
  refine Gl.of st1 ?_
  have Gb1 : n0 ≤ b1 := Nat.le_trans (O0.1 ▸ O0.2.1) (Nat.le_of_eq g1.symm)
  have Jb1 : h0.size ≤ b1 := Nat.le_trans K0.1 (Nat.le_of_eq g1.symm)
  have O1 := O0.ext E1
  have K1 := K0.ext E1
  have V1 : Arv Z h1 b1 k1 .byte (1 : Int32) [(.int (0 : Int32))] (.int (0 : Int32)) := (Arv.new A1 (by decide)).pad (pad_rep [] (.int (0 : Int32)) 1)
  show Gl p e below _ (T1.setTop (mkF m 3 #[.val (.int p1)] [(.ref b1)]))
  refine Gl.of (fun _ kq_ => XS.dup X1.here hx rfl (hb hby d21_3) rfl rfl kq_) ?_
  show Gl p e below _ (T1.setTop (mkF m 4 #[.val (.int p1)] [(.ref b1), (.ref b1)]))
  refine Gl.of (fun _ kq_ => XS.iconst X1.here hx rfl (hb hby d21_4) kq_) ?_
  show Gl p e below _ (T1.setTop (mkF m 5 #[.val (.int p1)] [(.int (0 : Int32)), (.ref b1), (.ref b1)]))
  refine Gl.of (fun _ kq_ => XS.iloadN X1.here hx rfl (hb hby d21_5) rfl kq_) ?_
  show Gl p e below _ (T1.setTop (mkF m 6 #[.val (.int p1)] [(.int p1), (.int (0 : Int32)), (.ref b1), (.ref b1)]))
  refine Gl.of (fun _ kq_ => XS.i2b X1.here hx rfl (hb hby d21_6) rfl kq_) ?_
  show Gl p e below _ (T1.setTop (mkF m 7 #[.val (.int p1)] [(.int (p1.toInt8.toInt32)), (.int (0 : Int32)), (.ref b1), (.ref b1)]))
  obtain ⟨zcl2, zAr2, zq2, zS2, zM2, zH2, zG2⟩ := id V1
  obtain ⟨T3, h3, X3, e3, W3, st3⟩ := stB X1 hx hZ e1 zAr2 (j := (0 : Int32)) (inb_of zS2 ⟨by decide, by decide⟩) (g := (mkF m 7 #[.val (.int p1)] [(.int (p1.toInt8.toInt32)), (.int (0 : Int32)), (.ref b1), (.ref b1)])) rfl rfl (hb hby d21_7)
  refine Gl.of st3 ?_
  have V3 : Arv Z h3 b1 k1 .byte (1 : Int32) [(.int (nar .byte (p1.toInt8.toInt32)))] (.int (0 : Int32)) := Arv.set zAr2 zq2 zS2 zM2 zH2 zG2 (fits_nar_byte _) W3 0 rfl (Nat.le_of_ble_eq_true rfl)
  have N3 := Fr.snoc X3 (Fr.nil n0) Gb1
  have O3 := O1.wr W3 Gb1
  have K3 := K1.wr W3 (Or.inr Jb1)
  show Gl p e below _ (T3.setTop (mkF m 8 #[.val (.int p1)] [(.ref b1)]))
  exact Gl.retR X3 hx hlk hret rfl rfl (hb hby d21_8) e3 (⟨_, _, _, _, rfl, V3, (by decide), K3, N3, Gb1, Jb1⟩) (by decide) (by decide)
theorem ef_32 (m : MethodId) (x0 : Int32) : entryFrame m #[(.int x0)] 2 = mkF m 0 #[.val (.int x0), .unset] [] := by first | (simp [entryFrame, mkF, argsToLocals, Value.category, maxLocals]; done) | rfl
theorem d23_0 : decode jdk_52_method_24_code 0 = .ok (.iconst 2, 1) := by decide +kernel
theorem d23_1 : decode jdk_52_method_24_code 1 = .ok (.newarray .byte, 2) := by decide +kernel
theorem d23_3 : decode jdk_52_method_24_code 3 = .ok (.astore_n 1, 1) := by decide +kernel
theorem d23_4 : decode jdk_52_method_24_code 4 = .ok (.aload_n 1, 1) := by decide +kernel
theorem d23_5 : decode jdk_52_method_24_code 5 = .ok (.iconst 0, 1) := by decide +kernel
theorem d23_6 : decode jdk_52_method_24_code 6 = .ok (.iload_n 0, 1) := by decide +kernel
theorem d23_7 : decode jdk_52_method_24_code 7 = .ok (.invokestatic 111, 3) := by decide +kernel
theorem d23_10 : decode jdk_52_method_24_code 10 = .ok (.aload_n 1, 1) := by decide +kernel
theorem d23_11 : decode jdk_52_method_24_code 11 = .ok (.areturn, 1) := by decide +kernel
set_option maxRecDepth 65536 in
set_option maxHeartbeats 40000000 in
theorem rmT2 (l : Launch) (Z : State) (a0 : Array Value) (hw : ∀ d ∈ tables_1, d.before a0 Z = true) (h0 : Heap) (p1 : Int32) (n0 : Nat) (Sa : Sta Z Z.heap "java/lang/StringUTF16" "$assertionsDisabled" "Z" (.int 1)) (Sh : Sta Z Z.heap "java/lang/StringUTF16" "HI_BYTE_SHIFT" "I" (.int 0)) (Sl : Sta Z Z.heap "java/lang/StringUTF16" "LO_BYTE_SHIFT" "I" (.int 8)) (O0 : Old Z n0 h0) : Con l Z (⟨"java/lang/StringUTF16", "toBytes", "(C)[B"⟩ : MethodName) jdk_52_method_24_code 2 (some (.array .byte)) [] ({ frames := 1, cells := 1, slots := 2, locals := 14 } : Room) 1 2 #[(.int p1)] h0 (fun v h L => ∃ r k z vs, v = some (.ref r) ∧ Arv Z h r k .byte z vs (.int 0) ∧ ¬ z = 0 ∧ Keep h0 h [] ∧ Fr n0 L ∧ n0 ≤ r ∧ h0.size ≤ r) := by
  refine Con.intro (plainFor_of_name pn_0) ?_
  intro p e s m below meth c s₁ X0 hx hby hml hZ hown hnm hret hlk e0 hs0
  refine Gl.of (fun _ kq_ => castTop (ef_32 m p1) kq_) ?_
  have K0 := Keep.refl h0 []
  show Gl p e below _ (s₁.setTop (mkF m 0 #[.val (.int p1), .unset] []))
  refine Gl.of (fun _ kq_ => XS.iconst X0.here hx rfl (hb hby d23_0) kq_) ?_
  show Gl p e below _ (s₁.setTop (mkF m 1 #[.val (.int p1), .unset] [(.int (2 : Int32))]))
  obtain ⟨T1, h1, k1, X1, e1, E1, A1, st1⟩ := newP (aty := .byte) X0 hx hZ (w20 hw) e0 (g := (mkF m 1 #[.val (.int p1), .unset] [(.int (2 : Int32))])) rfl (hb hby d23_1) rfl (by decide) (cap := 2) (by decide) (by decide) (by decide) (by decide)
  obtain ⟨b1, g1⟩ : ∃ z, z = h0.size := ⟨_, rfl⟩
  rw [← g1] at A1 st1
  refine Gl.of st1 ?_
  have Gb1 : n0 ≤ b1 := Nat.le_trans (O0.1 ▸ O0.2.1) (Nat.le_of_eq g1.symm)
  have Jb1 : h0.size ≤ b1 := Nat.le_trans K0.1 (Nat.le_of_eq g1.symm)
  have O1 := O0.ext E1
  have K1 := K0.ext E1
  have V1 : Arv Z h1 b1 k1 .byte (2 : Int32) [(.int (0 : Int32)), (.int (0 : Int32))] (.int (0 : Int32)) := (Arv.new A1 (by decide)).pad (pad_rep [] (.int (0 : Int32)) 2)
  show Gl p e below _ (T1.setTop (mkF m 3 #[.val (.int p1), .unset] [(.ref b1)]))
  refine Gl.of (fun _ kq_ => XS.astoreN X1.here hx rfl (hb hby d23_3) rfl rfl (l' := #[.val (.int p1), .val (.ref b1)]) rfl kq_) ?_
  show Gl p e below _ (T1.setTop (mkF m 4 #[.val (.int p1), .val (.ref b1)] []))
  refine Gl.of (fun _ kq_ => XS.aloadN X1.here hx rfl (hb hby d23_4) rfl rfl kq_) ?_
  show Gl p e below _ (T1.setTop (mkF m 5 #[.val (.int p1), .val (.ref b1)] [(.ref b1)]))
  refine Gl.of (fun _ kq_ => XS.iconst X1.here hx rfl (hb hby d23_5) kq_) ?_
  show Gl p e below _ (T1.setTop (mkF m 6 #[.val (.int p1), .val (.ref b1)] [(.int (0 : Int32)), (.ref b1)]))
  refine Gl.of (fun _ kq_ => XS.iloadN X1.here hx rfl (hb hby d23_6) rfl kq_) ?_
  show Gl p e below _ (T1.setTop (mkF m 7 #[.val (.int p1), .val (.ref b1)] [(.int p1), (.int (0 : Int32)), (.ref b1)]))
  refine Gl.callS X1 hx hZ (y := (⟨"java/lang/StringUTF16", "putChar", "([BII)V"⟩ : MethodName)) hown (w93 hw) (w94 hw) (w78 hw) (w95 hw) (desc_ne (by decide)) (rm := { frames := 0, cells := 0, slots := 0, locals := 0 }) (argsL := [(.ref b1), (.int (0 : Int32)), (.int p1)]) (rest := []) (rmP20 l Z a0 hw _ b1 k1 (0 : Int32) (0 : Int32) p1 n0 V1 Gb1 Sa Sh Sl O1) 0 (by decide) (by decide) (by decide) (by decide) e1 (pc := 7) (Ls := #[.val (.int p1), .val (.ref b1)]) (st := [(.int p1), (.int (0 : Int32)), (.ref b1)]) (by rw [hml]; rfl) pd_2 rfl rfl (Nat.le_of_eq rfl) (hb hby d23_7) ?_
  intro v2 T2 L2 X2 hQ2
  obtain ⟨rfl, Nq2, Kq2, Vq2⟩ := hQ2
  have N2 := Fr.app (Fr.nil n0) Nq2
  have O2 := O1.keep Kq2 (allS Gb1 all0)
  have K2 := K1.trans Kq2 (by intro x hx'; cases List.mem_singleton.mp hx'; exact Or.inr Jb1)
  show Gl p e below _ (T2.setTop (mkF m 10 #[.val (.int p1), .val (.ref b1)] []))
  refine Gl.of (fun _ kq_ => XS.aloadN X2.here hx rfl (hb hby d23_10) rfl rfl kq_) ?_
  show Gl p e below _ (T2.setTop (mkF m 11 #[.val (.int p1), .val (.ref b1)] [(.ref b1)]))
  exact Gl.retR X2 hx hlk hret rfl rfl (hb hby d23_11) rfl (⟨_, _, _, _, rfl, Vq2, (by decide), K2, N2, Gb1, Jb1⟩) (by decide) (by decide)
theorem ef_33 (m : MethodId) (x0 : Addr) (x1 : Addr) (x2 : Int32) : entryFrame m #[(.ref x0), (.ref x1), (.int x2)] 3 = mkF m 0 #[.val (.ref x0), .val (.ref x1), .val (.int x2)] [] := by first | (simp [entryFrame, mkF, argsToLocals, Value.category, maxLocals]; done) | rfl
theorem d22_0 : decode jdk_42_method_151_code 0 = .ok (.aload_n 0, 1) := by decide +kernel
theorem d22_1 : decode jdk_42_method_151_code 1 = .ok (.invokespecial 1, 3) := by decide +kernel
theorem d22_4 : decode jdk_42_method_151_code 4 = .ok (.aload_n 0, 1) := by decide +kernel
theorem d22_5 : decode jdk_42_method_151_code 5 = .ok (.aload_n 1, 1) := by decide +kernel
theorem d22_6 : decode jdk_42_method_151_code 6 = .ok (.putfield 9, 3) := by decide +kernel
theorem d22_9 : decode jdk_42_method_151_code 9 = .ok (.aload_n 0, 1) := by decide +kernel
theorem d22_10 : decode jdk_42_method_151_code 10 = .ok (.iload_n 2, 1) := by decide +kernel
theorem d22_11 : decode jdk_42_method_151_code 11 = .ok (.putfield 15, 3) := by decide +kernel
theorem d22_14 : decode jdk_42_method_151_code 14 = .ok (.return_, 1) := by decide +kernel
set_option maxRecDepth 65536 in
set_option maxHeartbeats 40000000 in
theorem rmIB (l : Launch) (Z : State) (a0 : Array Value) (hw : ∀ d ∈ tables_1, d.before a0 Z = true) (h0 : Heap) (b1 t1 : Addr) (p3 : Int32) (n0 : Nat) (E1 : Exa Z h0 b1 "java/lang/String") (Fv : Fld Z h0 b1 "java/lang/String" "value" "[B" .null) (Fc : Fld Z h0 b1 "java/lang/String" "coder" "B" (.int 0)) (Gb1 : n0 ≤ b1) (O0 : Old Z n0 h0) : Con l Z (⟨"java/lang/String", "<init>", "([BB)V"⟩ : MethodName) jdk_42_method_151_code 3 none [] ({ frames := 1, cells := 0, slots := 0, locals := 13 } : Room) 0 0 #[(.ref b1), (.ref t1), (.int p3)] h0 (fun v h L => v = none ∧ Fr n0 L ∧ Keep h0 h [b1] ∧ Fld Z h b1 "java/lang/String" "value" "[B" (.ref t1)) := by
  refine Con.intro (plainFor_of_name pn_1) ?_
  intro p e s m below meth c s₁ X0 hx hby hml hZ hown hnm hret hlk e0 hs0
  refine Gl.of (fun _ kq_ => castTop (ef_33 m b1 t1 p3) kq_) ?_
  have K0 := Keep.refl h0 [b1]
  show Gl p e below _ (s₁.setTop (mkF m 0 #[.val (.ref b1), .val (.ref t1), .val (.int p3)] []))
  refine Gl.of (fun _ kq_ => XS.aloadN X0.here hx rfl (hb hby d22_0) rfl rfl kq_) ?_
  show Gl p e below _ (s₁.setTop (mkF m 1 #[.val (.ref b1), .val (.ref t1), .val (.int p3)] [(.ref b1)]))
  obtain ⟨T1, X1, e1, st1⟩ := initO X0 hx hZ hown (w16 hw) (w17 hw) (w18 hw) e0 (g := (mkF m 1 #[.val (.ref b1), .val (.ref t1), .val (.int p3)] [(.ref b1)])) rfl (by rw [hml]; rfl) rfl (hb hby d22_1) (by decide) (W := 0) (by show 2 * 0 + _ ≤ _; exact Nat.le_of_eq rfl) (by decide)
  refine Gl.of st1 ?_
  show Gl p e below _ (T1.setTop (mkF m 4 #[.val (.ref b1), .val (.ref t1), .val (.int p3)] []))
  refine Gl.of (fun _ kq_ => XS.aloadN X1.here hx rfl (hb hby d22_4) rfl rfl kq_) ?_
  show Gl p e below _ (T1.setTop (mkF m 5 #[.val (.ref b1), .val (.ref t1), .val (.int p3)] [(.ref b1)]))
  refine Gl.of (fun _ kq_ => XS.aloadN X1.here hx rfl (hb hby d22_5) rfl rfl kq_) ?_
  show Gl p e below _ (T1.setTop (mkF m 6 #[.val (.ref b1), .val (.ref t1), .val (.int p3)] [(.ref t1), (.ref b1)]))
  obtain ⟨T2, h2, X2, e2, W2, st2⟩ := putF X1 hx hZ hown (host := "") (Or.inl (w25 hw)) Via.refl e1 Fv E1 (Or.inr ⟨(w21 hw), rfl, hnm⟩) (w6 hw) (ty := (.array .byte)) (by decide) rfl rfl (g := (mkF m 6 #[.val (.ref b1), .val (.ref t1), .val (.int p3)] [(.ref t1), (.ref b1)])) rfl rfl (hb hby d22_6)
  refine Gl.of st2 ?_
  have F2 : Fld Z h2 b1 "java/lang/String" "value" "[B" (.ref t1) := Fv.same W2
  have ec3 := E1.wr W2
  have fc4 := Fc.other W2 (Or.inr (slot_ne (Or.inr (w22 hw)) (Or.inr (w21 hw)) (by decide) (t := .byte) (t' := (.array .byte)) (by decide) (by decide)))
  have N2 := Fr.snoc X2 (Fr.nil n0) Gb1
  have O2 := O0.wr W2 Gb1
  have K2 := K0.wr W2 (Or.inl (List.mem_of_getElem? (i := 0) rfl))
  show Gl p e below _ (T2.setTop (mkF m 9 #[.val (.ref b1), .val (.ref t1), .val (.int p3)] []))
  refine Gl.of (fun _ kq_ => XS.aloadN X2.here hx rfl (hb hby d22_9) rfl rfl kq_) ?_
  show Gl p e below _ (T2.setTop (mkF m 10 #[.val (.ref b1), .val (.ref t1), .val (.int p3)] [(.ref b1)]))
  refine Gl.of (fun _ kq_ => XS.iloadN X2.here hx rfl (hb hby d22_10) rfl kq_) ?_
  show Gl p e below _ (T2.setTop (mkF m 11 #[.val (.ref b1), .val (.ref t1), .val (.int p3)] [(.int p3), (.ref b1)]))
  obtain ⟨T5, h5, X5, e5, W5, st5⟩ := putFN X2 hx hZ hown (w26 hw) Via.refl e2 fc4 ec3 (Or.inr ⟨(w22 hw), rfl, hnm⟩) (w6 hw) (ty := .byte) (v' := (.int (nar .byte p3))) (by decide) rfl (fits_nar_byte _) (g := (mkF m 11 #[.val (.ref b1), .val (.ref t1), .val (.int p3)] [(.int p3), (.ref b1)])) rfl rfl (hb hby d22_11)
  refine Gl.of st5 ?_
  have F5 : Fld Z h5 b1 "java/lang/String" "coder" "B" (.int (nar .byte p3)) := fc4.same W5
  have ec6 := ec3.wr W5
  have fc7 := F2.other W5 (Or.inr (slot_ne (Or.inr (w21 hw)) (Or.inr (w22 hw)) (by decide) (t := (.array .byte)) (t' := .byte) (by decide) (by decide)))
  have N5 := Fr.snoc X5 N2 Gb1
  have O5 := O2.wr W5 Gb1
  have K5 := K2.wr W5 (Or.inl (List.mem_of_getElem? (i := 0) rfl))
  show Gl p e below _ (T5.setTop (mkF m 14 #[.val (.ref b1), .val (.ref t1), .val (.int p3)] []))
  exact Gl.ret0 X5 hx hlk hret (hb hby d22_14) e5 (⟨rfl, N5, K5, fc7⟩) (by decide) (by decide)
theorem ef_34 (m : MethodId) (x0 : Int32) : entryFrame m #[(.int x0)] 1 = mkF m 0 #[.val (.int x0)] [] := by first | (simp [entryFrame, mkF, argsToLocals, Value.category, maxLocals]; done) | rfl
theorem d19_0 : decode jdk_42_method_139_code 0 = .ok (.getstatic 38, 3) := by decide +kernel
theorem d19_3 : decode jdk_42_method_139_code 3 = .ok (.ifCond .eq 23, 3) := by decide +kernel
theorem d19_6 : decode jdk_42_method_139_code 6 = .ok (.iload_n 0, 1) := by decide +kernel
theorem d19_7 : decode jdk_42_method_139_code 7 = .ok (.invokestatic 1015, 3) := by decide +kernel
theorem pd_8 : parseMethodDescriptor "(C)Z" = some ⟨[.char], some .boolean⟩ := by decide +kernel
theorem w108 {Z : State} {a0 : Array Value} (hw : ∀ d ∈ tables_1, d.before a0 Z = true) : (Jvm.Cond.methodLink "java/lang/String" (1015 : Nat) ({ cls := "java/lang/StringLatin1", name := "canEncode", desc := "(C)Z" } : Jvm.MethodName)).before a0 Z = true := hw _ (List.mem_of_getElem? (i := 108) rfl)
theorem w109 {Z : State} {a0 : Array Value} (hw : ∀ d ∈ tables_1, d.before a0 Z = true) : (Jvm.Cond.static ({ cls := "java/lang/StringLatin1", name := "canEncode", desc := "(C)Z" } : Jvm.MethodName)).before a0 Z = true := hw _ (List.mem_of_getElem? (i := 109) rfl)
theorem w110 {Z : State} {a0 : Array Value} (hw : ∀ d ∈ tables_1, d.before a0 Z = true) : (Jvm.Cond.initialized "java/lang/StringLatin1").before a0 Z = true := hw _ (List.mem_of_getElem? (i := 110) rfl)
theorem w111 {Z : State} {a0 : Array Value} (hw : ∀ d ∈ tables_1, d.before a0 Z = true) : (Jvm.Cond.code ({ cls := "java/lang/StringLatin1", name := "canEncode", desc := "(C)Z" } : Jvm.MethodName) jdk_43_method_3_code (1 : Nat) (Option.some Jvm.ClassFile.FieldType.boolean)).before a0 Z = true := hw _ (List.mem_of_getElem? (i := 111) rfl)
theorem d19_10 : decode jdk_42_method_139_code 10 = .ok (.ifCond .eq 16, 3) := by decide +kernel
theorem d19_26 : decode jdk_42_method_139_code 26 = .ok (.new 10, 3) := by decide +kernel
theorem w112 {Z : State} {a0 : Array Value} (hw : ∀ d ∈ tables_1, d.before a0 Z = true) : (Jvm.Cond.classLink "java/lang/String" (10 : Nat) "java/lang/String").before a0 Z = true := hw _ (List.mem_of_getElem? (i := 112) rfl)
theorem d19_29 : decode jdk_42_method_139_code 29 = .ok (.dup, 1) := by decide +kernel
theorem d19_30 : decode jdk_42_method_139_code 30 = .ok (.iload_n 0, 1) := by decide +kernel
theorem d19_31 : decode jdk_42_method_139_code 31 = .ok (.invokestatic 1021, 3) := by decide +kernel
theorem pd_9 : parseMethodDescriptor "(C)[B" = some ⟨[.char], some (.array .byte)⟩ := by decide +kernel
theorem w119 {Z : State} {a0 : Array Value} (hw : ∀ d ∈ tables_1, d.before a0 Z = true) : (Jvm.Cond.methodLink "java/lang/String" (1021 : Nat) ({ cls := "java/lang/StringUTF16", name := "toBytes", desc := "(C)[B" } : Jvm.MethodName)).before a0 Z = true := hw _ (List.mem_of_getElem? (i := 119) rfl)
theorem w120 {Z : State} {a0 : Array Value} (hw : ∀ d ∈ tables_1, d.before a0 Z = true) : (Jvm.Cond.static ({ cls := "java/lang/StringUTF16", name := "toBytes", desc := "(C)[B" } : Jvm.MethodName)).before a0 Z = true := hw _ (List.mem_of_getElem? (i := 120) rfl)
theorem w121 {Z : State} {a0 : Array Value} (hw : ∀ d ∈ tables_1, d.before a0 Z = true) : (Jvm.Cond.code ({ cls := "java/lang/StringUTF16", name := "toBytes", desc := "(C)[B" } : Jvm.MethodName) jdk_52_method_24_code (2 : Nat) (Option.some (Jvm.ClassFile.FieldType.array Jvm.ClassFile.FieldType.byte))).before a0 Z = true := hw _ (List.mem_of_getElem? (i := 121) rfl)
theorem d19_34 : decode jdk_42_method_139_code 34 = .ok (.iconst 1, 1) := by decide +kernel
theorem d19_35 : decode jdk_42_method_139_code 35 = .ok (.invokespecial 209, 3) := by decide +kernel
theorem pd_10 : parseMethodDescriptor "([BB)V" = some ⟨[(.array .byte), .byte], none⟩ := by decide +kernel
theorem w116 {Z : State} {a0 : Array Value} (hw : ∀ d ∈ tables_1, d.before a0 Z = true) : (Jvm.Cond.methodLink "java/lang/String" (209 : Nat) ({ cls := "java/lang/String", name := "<init>", desc := "([BB)V" } : Jvm.MethodName)).before a0 Z = true := hw _ (List.mem_of_getElem? (i := 116) rfl)
theorem w117 {Z : State} {a0 : Array Value} (hw : ∀ d ∈ tables_1, d.before a0 Z = true) : (Jvm.Cond.instanceMethod ({ cls := "java/lang/String", name := "<init>", desc := "([BB)V" } : Jvm.MethodName)).before a0 Z = true := hw _ (List.mem_of_getElem? (i := 117) rfl)
theorem w118 {Z : State} {a0 : Array Value} (hw : ∀ d ∈ tables_1, d.before a0 Z = true) : (Jvm.Cond.code ({ cls := "java/lang/String", name := "<init>", desc := "([BB)V" } : Jvm.MethodName) jdk_42_method_151_code (3 : Nat) (Option.none : Option Jvm.ClassFile.FieldType)).before a0 Z = true := hw _ (List.mem_of_getElem? (i := 118) rfl)
theorem d19_38 : decode jdk_42_method_139_code 38 = .ok (.areturn, 1) := by decide +kernel
theorem d19_13 : decode jdk_42_method_139_code 13 = .ok (.new 10, 3) := by decide +kernel
theorem d19_16 : decode jdk_42_method_139_code 16 = .ok (.dup, 1) := by decide +kernel
theorem d19_17 : decode jdk_42_method_139_code 17 = .ok (.iload_n 0, 1) := by decide +kernel
theorem d19_18 : decode jdk_42_method_139_code 18 = .ok (.invokestatic 1018, 3) := by decide +kernel
theorem w113 {Z : State} {a0 : Array Value} (hw : ∀ d ∈ tables_1, d.before a0 Z = true) : (Jvm.Cond.methodLink "java/lang/String" (1018 : Nat) ({ cls := "java/lang/StringLatin1", name := "toBytes", desc := "(C)[B" } : Jvm.MethodName)).before a0 Z = true := hw _ (List.mem_of_getElem? (i := 113) rfl)
theorem w114 {Z : State} {a0 : Array Value} (hw : ∀ d ∈ tables_1, d.before a0 Z = true) : (Jvm.Cond.static ({ cls := "java/lang/StringLatin1", name := "toBytes", desc := "(C)[B" } : Jvm.MethodName)).before a0 Z = true := hw _ (List.mem_of_getElem? (i := 114) rfl)
theorem w115 {Z : State} {a0 : Array Value} (hw : ∀ d ∈ tables_1, d.before a0 Z = true) : (Jvm.Cond.code ({ cls := "java/lang/StringLatin1", name := "toBytes", desc := "(C)[B" } : Jvm.MethodName) jdk_43_method_46_code (1 : Nat) (Option.some (Jvm.ClassFile.FieldType.array Jvm.ClassFile.FieldType.byte))).before a0 Z = true := hw _ (List.mem_of_getElem? (i := 115) rfl)
theorem d19_21 : decode jdk_42_method_139_code 21 = .ok (.iconst 0, 1) := by decide +kernel
theorem d19_22 : decode jdk_42_method_139_code 22 = .ok (.invokespecial 209, 3) := by decide +kernel
theorem d19_25 : decode jdk_42_method_139_code 25 = .ok (.areturn, 1) := by decide +kernel
set_option maxRecDepth 65536 in
set_option maxHeartbeats 40000000 in
theorem rmV (l : Launch) (Z : State) (a0 : Array Value) (hw : ∀ d ∈ tables_1, d.before a0 Z = true) (h0 : Heap) (p1 : Int32) (cz : Int32) (n0 : Nat) (SC : Sta Z Z.heap "java/lang/String" "COMPACT_STRINGS" "Z" (.int cz)) (hcz : ¬ cz = 0) (Sa : Sta Z Z.heap "java/lang/StringUTF16" "$assertionsDisabled" "Z" (.int 1)) (Sh : Sta Z Z.heap "java/lang/StringUTF16" "HI_BYTE_SHIFT" "I" (.int 0)) (Sl : Sta Z Z.heap "java/lang/StringUTF16" "LO_BYTE_SHIFT" "I" (.int 8)) (O0 : Old Z n0 h0) : Con l Z (⟨"java/lang/String", "valueOf", "(C)Ljava/lang/String;"⟩ : MethodName) jdk_42_method_139_code 1 (some (.object "java/lang/String")) [] ({ frames := 2, cells := 2, slots := 6, locals := 45 } : Room) 2 6 #[(.int p1)] h0 (fun v h L => ∃ x t k z vs, v = some (.ref x) ∧ Exa Z h x "java/lang/String" ∧ Fld Z h x "java/lang/String" "value" "[B" (.ref t) ∧ Arv Z h t k .byte z vs (.int 0) ∧ ¬ z = 0 ∧ Keep h0 h [] ∧ Fr n0 L) := by
  refine Con.intro (plainFor_of_name pn_1) ?_
  intro p e s m below meth c s₁ X0 hx hby hml hZ hown hnm hret hlk e0 hs0
  refine Gl.of (fun _ kq_ => castTop (ef_34 m p1) kq_) ?_
  have K0 := Keep.refl h0 []
  show Gl p e below _ (s₁.setTop (mkF m 0 #[.val (.int p1)] []))
  obtain ⟨T1, X1, e1, st1⟩ := getS2 X0 hx hZ hown (host := "") (Or.inl (w75 hw)) Via.refl e0 (SC.ext O0.2) (g := (mkF m 0 #[.val (.int p1)] [])) rfl (hb hby d19_0)
  refine Gl.of st1 ?_
  show Gl p e below _ (T1.setTop (mkF m 3 #[.val (.int p1)] [(.int cz)]))
  refine Gl.of (fun _ kq_ => XS.ifNo X1.here hx rfl (hb hby d19_3) rfl ((if0 _ _).trans (feq hcz).1) kq_) ?_
  show Gl p e below _ (T1.setTop (mkF m 6 #[.val (.int p1)] []))
  refine Gl.of (fun _ kq_ => XS.iloadN X1.here hx rfl (hb hby d19_6) rfl kq_) ?_
  show Gl p e below _ (T1.setTop (mkF m 7 #[.val (.int p1)] [(.int p1)]))
  by_cases hce : (255 : Int32) < p1
  · refine Gl.callS0 X1 hx hZ (y := (⟨"java/lang/StringLatin1", "canEncode", "(C)Z"⟩ : MethodName)) hown (w108 hw) (w109 hw) (w110 hw) (w111 hw) (desc_ne (by decide)) (argsL := [(.int p1)]) (rest := []) (rmE0 l Z a0 hw _ p1 hce) 0 (by decide) (by decide) e1 (pc := 7) (Ls := #[.val (.int p1)]) (st := [(.int p1)]) (by rw [hml]; rfl) pd_8 rfl rfl (Nat.le_of_eq rfl) (hb hby d19_7) (by decide) (by decide) ?_
    intro v2 T2 X2 e2 hv2
    subst hv2
    show Gl p e below _ (T2.setTop (mkF m 10 #[.val (.int p1)] [(.int (0 : Int32))]))
    refine Gl.of (fun _ kq_ => XS.ifYes X2.here hx rfl (pc0 := 10) (pc' := 26) rfl (hb hby d19_10) rfl ((if0 _ _).trans (teq (by decide : (0 : Int32) = (0 : Int32))).1) (by decide) (by decide) kq_) ?_
    show Gl p e below _ (T2.setTop (mkF m 26 #[.val (.int p1)] []))
    obtain ⟨T3, h3, X3, e3, E3, A3, D3, -, st3⟩ := newO X2 hx hZ hown (w112 hw) (w6 hw) (w7 hw) e2 (g := (mkF m 26 #[.val (.int p1)] [])) rfl (hb hby d19_26) (by decide) (by decide)
    obtain ⟨b3, g3⟩ : ∃ z, z = h0.size := ⟨_, rfl⟩
    rw [← g3] at A3 D3 st3
    refine Gl.of st3 ?_
    have Gb3 : n0 ≤ b3 := Nat.le_trans (O0.1 ▸ O0.2.1) (Nat.le_of_eq g3.symm)
    have Jb3 : h0.size ≤ b3 := Nat.le_trans K0.1 (Nat.le_of_eq g3.symm)
    have O3 := O0.ext E3
    have K3 := K0.ext E3
    have F3_value : Fld Z h3 b3 "java/lang/String" "value" "[B" .null := D3 (Or.inr (w21 hw)) (ty := (.array .byte)) (by decide)
    have F3_coder : Fld Z h3 b3 "java/lang/String" "coder" "B" (.int (0 : Int32)) := D3 (Or.inr (w22 hw)) (ty := .byte) (by decide)
    show Gl p e below _ (T3.setTop (mkF m 29 #[.val (.int p1)] [(.ref b3)]))
    refine Gl.of (fun _ kq_ => XS.dup X3.here hx rfl (hb hby d19_29) rfl rfl kq_) ?_
    show Gl p e below _ (T3.setTop (mkF m 30 #[.val (.int p1)] [(.ref b3), (.ref b3)]))
    refine Gl.of (fun _ kq_ => XS.iloadN X3.here hx rfl (hb hby d19_30) rfl kq_) ?_
    show Gl p e below _ (T3.setTop (mkF m 31 #[.val (.int p1)] [(.int p1), (.ref b3), (.ref b3)]))
    refine Gl.callS X3 hx hZ (y := (⟨"java/lang/StringUTF16", "toBytes", "(C)[B"⟩ : MethodName)) hown (w119 hw) (w120 hw) (w78 hw) (w121 hw) (desc_ne (by decide)) (rm := { frames := 1, cells := 1, slots := 2, locals := 14 }) (argsL := [(.int p1)]) (rest := [(.ref b3), (.ref b3)]) (rmT2 l Z a0 hw _ p1 n0 Sa Sh Sl O3) 2 (by decide) (by decide) (by decide) (by decide) e3 (pc := 31) (Ls := #[.val (.int p1)]) (st := [(.int p1), (.ref b3), (.ref b3)]) (by rw [hml]; rfl) pd_9 rfl rfl (Nat.le_of_eq rfl) (hb hby d19_31) ?_
    intro v4 T4 L4 X4 hQ4
    obtain ⟨r4, k4, z4, vs4, rfl, Vq4, hz4, Kq4, Nq4, Gr4, H4⟩ := hQ4
    have N4 := Fr.app (Fr.nil n0) Nq4
    have ne_b3_r4 : b3 ≠ r4 := Nat.ne_of_lt (Nat.lt_of_lt_of_le A3.lt H4)
    have Jr4 : h0.size ≤ r4 := Nat.le_trans K3.1 H4
    have ec5 := A3.keep Kq4
    have fc6 := F3_value.keep Kq4 (by simp)
    have fc7 := F3_coder.keep Kq4 (by simp)
    have O4 := O3.keep Kq4 all0
    have K4 := K3.trans Kq4 (by intro x hx'; exact nomatch hx')
    show Gl p e below _ (T4.setTop (mkF m 34 #[.val (.int p1)] [(.ref r4), (.ref b3), (.ref b3)]))
    refine Gl.of (fun _ kq_ => XS.iconst X4.here hx rfl (hb hby d19_34) kq_) ?_
    show Gl p e below _ (T4.setTop (mkF m 35 #[.val (.int p1)] [(.int (1 : Int32)), (.ref r4), (.ref b3), (.ref b3)]))
    refine Gl.callI X4 hx hZ (y := (⟨"java/lang/String", "<init>", "([BB)V"⟩ : MethodName)) rfl hown (w116 hw) (w117 hw) (w7 hw) (w118 hw) (desc_ne (by decide)) (rm := { frames := 1, cells := 0, slots := 0, locals := 13 }) (b := b3) (argsL := [(.ref r4), (.int (1 : Int32))]) (rest := [(.ref b3)]) (rmIB l Z a0 hw _ b3 r4 (1 : Int32) n0 ec5 fc6 fc7 Gb3 O4) 1 (by decide) (by decide) (by decide) (by decide) rfl (pc := 35) (Ls := #[.val (.int p1)]) (st := [(.int (1 : Int32)), (.ref r4), (.ref b3), (.ref b3)]) (by rw [hml]; rfl) pd_10 rfl rfl (Nat.le_of_eq rfl) (hb hby d19_35) ?_
    intro v8 T8 L8 X8 hQ8
    obtain ⟨rfl, Nq8, Kq8, Fq8⟩ := hQ8
    have N8 := Fr.app N4 Nq8
    have ec9 := ec5.keep Kq8
    have vc10 := Vq4.keep Kq8 (fun q => ne_b3_r4.symm (List.mem_singleton.mp q))
    have O8 := O4.keep Kq8 (allS Gb3 all0)
    have K8 := K4.trans Kq8 (by intro x hx'; cases List.mem_singleton.mp hx'; exact Or.inr Jb3)
    show Gl p e below _ (T8.setTop (mkF m 38 #[.val (.int p1)] [(.ref b3)]))
    exact Gl.retR X8 hx hlk hret rfl rfl (hb hby d19_38) rfl (⟨_, _, _, _, _, rfl, ec9, Fq8, vc10, hz4, K8, N8⟩) (by decide) (by decide)
  · refine Gl.callS0 X1 hx hZ (y := (⟨"java/lang/StringLatin1", "canEncode", "(C)Z"⟩ : MethodName)) hown (w108 hw) (w109 hw) (w110 hw) (w111 hw) (desc_ne (by decide)) (argsL := [(.int p1)]) (rest := []) (rmE1 l Z a0 hw _ p1 hce) 0 (by decide) (by decide) e1 (pc := 7) (Ls := #[.val (.int p1)]) (st := [(.int p1)]) (by rw [hml]; rfl) pd_8 rfl rfl (Nat.le_of_eq rfl) (hb hby d19_7) (by decide) (by decide) ?_
    intro v11 T11 X11 e11 hv11
    subst hv11
    show Gl p e below _ (T11.setTop (mkF m 10 #[.val (.int p1)] [(.int (1 : Int32))]))
    refine Gl.of (fun _ kq_ => XS.ifNo X11.here hx rfl (hb hby d19_10) rfl ((if0 _ _).trans (feq (by decide : ¬ ((1 : Int32) = (0 : Int32)))).1) kq_) ?_
    show Gl p e below _ (T11.setTop (mkF m 13 #[.val (.int p1)] []))
    obtain ⟨T12, h12, X12, e12, E12, A12, D12, -, st12⟩ := newO X11 hx hZ hown (w112 hw) (w6 hw) (w7 hw) e11 (g := (mkF m 13 #[.val (.int p1)] [])) rfl (hb hby d19_13) (by decide) (by decide)
    obtain ⟨b12, g12⟩ : ∃ z, z = h0.size := ⟨_, rfl⟩
    rw [← g12] at A12 D12 st12
    refine Gl.of st12 ?_
    have Gb12 : n0 ≤ b12 := Nat.le_trans (O0.1 ▸ O0.2.1) (Nat.le_of_eq g12.symm)
    have Jb12 : h0.size ≤ b12 := Nat.le_trans K0.1 (Nat.le_of_eq g12.symm)
    have O12 := O0.ext E12
    have K12 := K0.ext E12
    have F12_value : Fld Z h12 b12 "java/lang/String" "value" "[B" .null := D12 (Or.inr (w21 hw)) (ty := (.array .byte)) (by decide)
    have F12_coder : Fld Z h12 b12 "java/lang/String" "coder" "B" (.int (0 : Int32)) := D12 (Or.inr (w22 hw)) (ty := .byte) (by decide)
    show Gl p e below _ (T12.setTop (mkF m 16 #[.val (.int p1)] [(.ref b12)]))
    refine Gl.of (fun _ kq_ => XS.dup X12.here hx rfl (hb hby d19_16) rfl rfl kq_) ?_
    show Gl p e below _ (T12.setTop (mkF m 17 #[.val (.int p1)] [(.ref b12), (.ref b12)]))
    refine Gl.of (fun _ kq_ => XS.iloadN X12.here hx rfl (hb hby d19_17) rfl kq_) ?_
    show Gl p e below _ (T12.setTop (mkF m 18 #[.val (.int p1)] [(.int p1), (.ref b12), (.ref b12)]))
    refine Gl.callS X12 hx hZ (y := (⟨"java/lang/StringLatin1", "toBytes", "(C)[B"⟩ : MethodName)) hown (w113 hw) (w114 hw) (w110 hw) (w115 hw) (desc_ne (by decide)) (rm := { frames := 0, cells := 1, slots := 1, locals := 0 }) (argsL := [(.int p1)]) (rest := [(.ref b12), (.ref b12)]) (rmT1 l Z a0 hw _ p1 n0 O12) 2 (by decide) (by decide) (by decide) (by decide) e12 (pc := 18) (Ls := #[.val (.int p1)]) (st := [(.int p1), (.ref b12), (.ref b12)]) (by rw [hml]; rfl) pd_9 rfl rfl (Nat.le_of_eq rfl) (hb hby d19_18) ?_
    intro v13 T13 L13 X13 hQ13
    obtain ⟨r13, k13, z13, vs13, rfl, Vq13, hz13, Kq13, Nq13, Gr13, H13⟩ := hQ13
    have N13 := Fr.app (Fr.nil n0) Nq13
    have ne_b12_r13 : b12 ≠ r13 := Nat.ne_of_lt (Nat.lt_of_lt_of_le A12.lt H13)
    have Jr13 : h0.size ≤ r13 := Nat.le_trans K12.1 H13
    have ec14 := A12.keep Kq13
    have fc15 := F12_value.keep Kq13 (by simp)
    have fc16 := F12_coder.keep Kq13 (by simp)
    have O13 := O12.keep Kq13 all0
    have K13 := K12.trans Kq13 (by intro x hx'; exact nomatch hx')
    show Gl p e below _ (T13.setTop (mkF m 21 #[.val (.int p1)] [(.ref r13), (.ref b12), (.ref b12)]))
    refine Gl.of (fun _ kq_ => XS.iconst X13.here hx rfl (hb hby d19_21) kq_) ?_
    show Gl p e below _ (T13.setTop (mkF m 22 #[.val (.int p1)] [(.int (0 : Int32)), (.ref r13), (.ref b12), (.ref b12)]))
    refine Gl.callI X13 hx hZ (y := (⟨"java/lang/String", "<init>", "([BB)V"⟩ : MethodName)) rfl hown (w116 hw) (w117 hw) (w7 hw) (w118 hw) (desc_ne (by decide)) (rm := { frames := 1, cells := 0, slots := 0, locals := 13 }) (b := b12) (argsL := [(.ref r13), (.int (0 : Int32))]) (rest := [(.ref b12)]) (rmIB l Z a0 hw _ b12 r13 (0 : Int32) n0 ec14 fc15 fc16 Gb12 O13) 1 (by decide) (by decide) (by decide) (by decide) rfl (pc := 22) (Ls := #[.val (.int p1)]) (st := [(.int (0 : Int32)), (.ref r13), (.ref b12), (.ref b12)]) (by rw [hml]; rfl) pd_10 rfl rfl (Nat.le_of_eq rfl) (hb hby d19_22) ?_
    intro v17 T17 L17 X17 hQ17
    obtain ⟨rfl, Nq17, Kq17, Fq17⟩ := hQ17
    have N17 := Fr.app N13 Nq17
    have ec18 := ec14.keep Kq17
    have vc19 := Vq13.keep Kq17 (fun q => ne_b12_r13.symm (List.mem_singleton.mp q))
    have O17 := O13.keep Kq17 (allS Gb12 all0)
    have K17 := K13.trans Kq17 (by intro x hx'; cases List.mem_singleton.mp hx'; exact Or.inr Jb12)
    show Gl p e below _ (T17.setTop (mkF m 25 #[.val (.int p1)] [(.ref b12)]))
    exact Gl.retR X17 hx hlk hret rfl rfl (hb hby d19_25) rfl (⟨_, _, _, _, _, rfl, ec18, Fq17, vc19, hz13, K17, N17⟩) (by decide) (by decide)
def own_nm (Z : State) (h : Heap) (w : Value) (i k : Int32) : Prop := (¬ i = 0 ∧ w = .null) ∨ (i = 0 ∧ ∃ x t kk z vs, w = .ref x ∧ Exa Z h x "java/lang/String" ∧ Fld Z h x "java/lang/String" "value" "[B" (.ref t) ∧ Arv Z h t kk .byte z vs (.int 0) ∧ ((k = 0 ∧ z = 0) ∨ (¬ k = 0 ∧ ¬ z = 0)))
theorem ef_35 (m : MethodId) (x0 : Int32) (x1 : Int32) (x2 : Int32) (x3 : Int32) (x4 : Int32) : entryFrame m #[(.int x0), (.int x1), (.int x2), (.int x3), (.int x4)] 6 = mkF m 0 #[.val (.int x0), .val (.int x1), .val (.int x2), .val (.int x3), .val (.int x4), .unset] [] := by first | (simp [entryFrame, mkF, argsToLocals, Value.category, maxLocals]; done) | rfl
theorem pn_3 : plainName "com/example/pathstone/pathstone/NodeIsUnnamedPinLaw" = true := by first | (simp [plainName, overriddenIn]; done) | decide +kernel
theorem d1_0 : decode method_3_code 0 = .ok (.iload_n 0, 1) := by decide +kernel
theorem d1_1 : decode method_3_code 1 = .ok (.ifCond .eq 5, 3) := by decide +kernel
theorem d1_6 : decode method_3_code 6 = .ok (.iload_n 1, 1) := by decide +kernel
theorem d1_7 : decode method_3_code 7 = .ok (.ifCond .ne 14, 3) := by decide +kernel
theorem d1_10 : decode method_3_code 10 = .ok (.new 23, 3) := by decide +kernel
theorem w5 {Z : State} {a0 : Array Value} (hw : ∀ d ∈ tables_1, d.before a0 Z = true) : (Jvm.Cond.classLink "com/example/pathstone/pathstone/NodeIsUnnamedPinLaw" (23 : Nat) "java/lang/String").before a0 Z = true := hw _ (List.mem_of_getElem? (i := 5) rfl)
theorem d1_13 : decode method_3_code 13 = .ok (.dup, 1) := by decide +kernel
theorem d1_14 : decode method_3_code 14 = .ok (.iconst 0, 1) := by decide +kernel
theorem d1_15 : decode method_3_code 15 = .ok (.newarray .char, 2) := by decide +kernel
theorem w8 {Z : State} {a0 : Array Value} (hw : ∀ d ∈ tables_1, d.before a0 Z = true) : (Jvm.Cond.arrayClass Jvm.ClassFile.FieldType.char).before a0 Z = true := hw _ (List.mem_of_getElem? (i := 8) rfl)
theorem d1_17 : decode method_3_code 17 = .ok (.invokespecial 25, 3) := by decide +kernel
theorem pd_11 : parseMethodDescriptor "([C)V" = some ⟨[(.array .char)], none⟩ := by decide +kernel
theorem w9 {Z : State} {a0 : Array Value} (hw : ∀ d ∈ tables_1, d.before a0 Z = true) : (Jvm.Cond.methodLink "com/example/pathstone/pathstone/NodeIsUnnamedPinLaw" (25 : Nat) ({ cls := "java/lang/String", name := "<init>", desc := "([C)V" } : Jvm.MethodName)).before a0 Z = true := hw _ (List.mem_of_getElem? (i := 9) rfl)
theorem w10 {Z : State} {a0 : Array Value} (hw : ∀ d ∈ tables_1, d.before a0 Z = true) : (Jvm.Cond.instanceMethod ({ cls := "java/lang/String", name := "<init>", desc := "([C)V" } : Jvm.MethodName)).before a0 Z = true := hw _ (List.mem_of_getElem? (i := 10) rfl)
theorem w11 {Z : State} {a0 : Array Value} (hw : ∀ d ∈ tables_1, d.before a0 Z = true) : (Jvm.Cond.code ({ cls := "java/lang/String", name := "<init>", desc := "([C)V" } : Jvm.MethodName) jdk_42_method_3_code (2 : Nat) (Option.none : Option Jvm.ClassFile.FieldType)).before a0 Z = true := hw _ (List.mem_of_getElem? (i := 11) rfl)
theorem d1_20 : decode method_3_code 20 = .ok (.areturn, 1) := by decide +kernel
theorem d1_21 : decode method_3_code 21 = .ok (.iload_n 1, 1) := by decide +kernel
theorem d1_22 : decode method_3_code 22 = .ok (.iconst 1, 1) := by decide +kernel
theorem d1_23 : decode method_3_code 23 = .ok (.if_icmp .ne 8, 3) := by decide +kernel
theorem d1_26 : decode method_3_code 26 = .ok (.iload_n 2, 1) := by decide +kernel
theorem d1_27 : decode method_3_code 27 = .ok (.invokestatic 28, 3) := by decide +kernel
theorem pd_12 : parseMethodDescriptor "(C)Ljava/lang/String;" = some ⟨[.char], some (.object "java/lang/String")⟩ := by decide +kernel
theorem w105 {Z : State} {a0 : Array Value} (hw : ∀ d ∈ tables_1, d.before a0 Z = true) : (Jvm.Cond.methodLink "com/example/pathstone/pathstone/NodeIsUnnamedPinLaw" (28 : Nat) ({ cls := "java/lang/String", name := "valueOf", desc := "(C)Ljava/lang/String;" } : Jvm.MethodName)).before a0 Z = true := hw _ (List.mem_of_getElem? (i := 105) rfl)
theorem w106 {Z : State} {a0 : Array Value} (hw : ∀ d ∈ tables_1, d.before a0 Z = true) : (Jvm.Cond.static ({ cls := "java/lang/String", name := "valueOf", desc := "(C)Ljava/lang/String;" } : Jvm.MethodName)).before a0 Z = true := hw _ (List.mem_of_getElem? (i := 106) rfl)
theorem w107 {Z : State} {a0 : Array Value} (hw : ∀ d ∈ tables_1, d.before a0 Z = true) : (Jvm.Cond.code ({ cls := "java/lang/String", name := "valueOf", desc := "(C)Ljava/lang/String;" } : Jvm.MethodName) jdk_42_method_139_code (1 : Nat) (Option.some (Jvm.ClassFile.FieldType.object "java/lang/String"))).before a0 Z = true := hw _ (List.mem_of_getElem? (i := 107) rfl)
theorem d1_30 : decode method_3_code 30 = .ok (.areturn, 1) := by decide +kernel
theorem d1_31 : decode method_3_code 31 = .ok (.iload_n 1, 1) := by decide +kernel
theorem d1_32 : decode method_3_code 32 = .ok (.iconst 2, 1) := by decide +kernel
theorem d1_33 : decode method_3_code 33 = .ok (.if_icmp .ne 28, 3) := by decide +kernel
theorem d1_36 : decode method_3_code 36 = .ok (.iconst 2, 1) := by decide +kernel
theorem d1_37 : decode method_3_code 37 = .ok (.newarray .char, 2) := by decide +kernel
theorem d1_39 : decode method_3_code 39 = .ok (.astore 5, 2) := by decide +kernel
theorem d1_41 : decode method_3_code 41 = .ok (.aload 5, 2) := by decide +kernel
theorem d1_43 : decode method_3_code 43 = .ok (.iconst 0, 1) := by decide +kernel
theorem d1_44 : decode method_3_code 44 = .ok (.iload_n 2, 1) := by decide +kernel
theorem d1_45 : decode method_3_code 45 = .ok (.castore, 1) := by decide +kernel
theorem d1_46 : decode method_3_code 46 = .ok (.aload 5, 2) := by decide +kernel
theorem d1_48 : decode method_3_code 48 = .ok (.iconst 1, 1) := by decide +kernel
theorem d1_49 : decode method_3_code 49 = .ok (.iload_n 3, 1) := by decide +kernel
theorem d1_50 : decode method_3_code 50 = .ok (.castore, 1) := by decide +kernel
theorem d1_51 : decode method_3_code 51 = .ok (.new 23, 3) := by decide +kernel
theorem d1_54 : decode method_3_code 54 = .ok (.dup, 1) := by decide +kernel
theorem d1_55 : decode method_3_code 55 = .ok (.aload 5, 2) := by decide +kernel
theorem d1_57 : decode method_3_code 57 = .ok (.invokespecial 25, 3) := by decide +kernel
theorem d1_60 : decode method_3_code 60 = .ok (.areturn, 1) := by decide +kernel
theorem d1_61 : decode method_3_code 61 = .ok (.iconst 3, 1) := by decide +kernel
theorem d1_62 : decode method_3_code 62 = .ok (.newarray .char, 2) := by decide +kernel
theorem d1_64 : decode method_3_code 64 = .ok (.astore 5, 2) := by decide +kernel
theorem d1_66 : decode method_3_code 66 = .ok (.aload 5, 2) := by decide +kernel
theorem d1_68 : decode method_3_code 68 = .ok (.iconst 0, 1) := by decide +kernel
theorem d1_69 : decode method_3_code 69 = .ok (.iload_n 2, 1) := by decide +kernel
theorem d1_70 : decode method_3_code 70 = .ok (.castore, 1) := by decide +kernel
theorem d1_71 : decode method_3_code 71 = .ok (.aload 5, 2) := by decide +kernel
theorem d1_73 : decode method_3_code 73 = .ok (.iconst 1, 1) := by decide +kernel
theorem d1_74 : decode method_3_code 74 = .ok (.iload_n 3, 1) := by decide +kernel
theorem d1_75 : decode method_3_code 75 = .ok (.castore, 1) := by decide +kernel
theorem d1_76 : decode method_3_code 76 = .ok (.aload 5, 2) := by decide +kernel
theorem d1_78 : decode method_3_code 78 = .ok (.iconst 2, 1) := by decide +kernel
theorem d1_79 : decode method_3_code 79 = .ok (.iload 4, 2) := by decide +kernel
theorem d1_81 : decode method_3_code 81 = .ok (.castore, 1) := by decide +kernel
theorem d1_82 : decode method_3_code 82 = .ok (.new 23, 3) := by decide +kernel
theorem d1_85 : decode method_3_code 85 = .ok (.dup, 1) := by decide +kernel
theorem d1_86 : decode method_3_code 86 = .ok (.aload 5, 2) := by decide +kernel
theorem d1_88 : decode method_3_code 88 = .ok (.invokespecial 25, 3) := by decide +kernel
theorem d1_91 : decode method_3_code 91 = .ok (.areturn, 1) := by decide +kernel
theorem d1_4 : decode method_3_code 4 = .ok (.aconst_null, 1) := by decide +kernel
theorem d1_5 : decode method_3_code 5 = .ok (.areturn, 1) := by decide +kernel
set_option maxRecDepth 65536 in
set_option maxHeartbeats 40000000 in
theorem rmM (l : Launch) (Z : State) (a0 : Array Value) (hw : ∀ d ∈ tables_1, d.before a0 Z = true) (h0 : Heap) (p1 p2 c0 c1 c2 : Int32) (cz : Int32) (n0 : Nat) (SC : Sta Z Z.heap "java/lang/String" "COMPACT_STRINGS" "Z" (.int cz)) (hcz : ¬ cz = 0) (Sa : Sta Z Z.heap "java/lang/StringUTF16" "$assertionsDisabled" "Z" (.int 1)) (Sh : Sta Z Z.heap "java/lang/StringUTF16" "HI_BYTE_SHIFT" "I" (.int 0)) (Sl : Sta Z Z.heap "java/lang/StringUTF16" "LO_BYTE_SHIFT" "I" (.int 8)) (O0 : Old Z n0 h0) : ConE l Z own_EL (⟨"com/example/pathstone/pathstone/NodeIsUnnamedPinLaw", "makeName", "(ZICCC)Ljava/lang/String;"⟩ : MethodName) method_3_code 6 (some (.object "java/lang/String")) [] ({ frames := 6, cells := 4, slots := 24, locals := 100 } : Room) 4 24 #[(.int p1), (.int p2), (.int c0), (.int c1), (.int c2)] h0 (fun v h L => ∃ w, v = some w ∧ Keep h0 h [] ∧ Fr n0 L ∧ own_nm Z h w p1 p2) := by
  refine ConE.intro (plainFor_of_name pn_3) ?_
  intro p e s m below meth c s₁ X0 hx hby hml hZ hown hnm hret hlk e0 hs0 hR0
  refine Gl.of (fun _ kq_ => castTop (ef_35 m p1 p2 c0 c1 c2) kq_) ?_
  have hS0 := (State.WarmedH.refl s).since 0
  have hk0 : 0 ≤ h0.size := Nat.zero_le _
  have K0 := Keep.refl h0 []
  show Gl p e below _ (s₁.setTop (mkF m 0 #[.val (.int p1), .val (.int p2), .val (.int c0), .val (.int c1), .val (.int c2), .unset] []))
  refine Gl.of (fun _ kq_ => XS.iloadN X0.here hx rfl (hb hby d1_0) rfl kq_) ?_
  show Gl p e below _ (s₁.setTop (mkF m 1 #[.val (.int p1), .val (.int p2), .val (.int c0), .val (.int c1), .val (.int c2), .unset] [(.int p1)]))
  by_cases hc1_1 : p1 = (0 : Int32)
  · refine Gl.of (fun _ kq_ => XS.ifYes X0.here hx rfl (pc0 := 1) (pc' := 6) rfl (hb hby d1_1) rfl ((if0 _ _).trans (teq hc1_1).1) (by decide) (by decide) kq_) ?_
    show Gl p e below _ (s₁.setTop (mkF m 6 #[.val (.int p1), .val (.int p2), .val (.int c0), .val (.int c1), .val (.int c2), .unset] []))
    refine Gl.of (fun _ kq_ => XS.iloadN X0.here hx rfl (hb hby d1_6) rfl kq_) ?_
    show Gl p e below _ (s₁.setTop (mkF m 7 #[.val (.int p1), .val (.int p2), .val (.int c0), .val (.int c1), .val (.int c2), .unset] [(.int p2)]))
    by_cases hc7_2 : p2 = (0 : Int32)
    · refine Gl.of (fun _ kq_ => XS.ifNo X0.here hx rfl (hb hby d1_7) rfl ((if0 _ _).trans (teq hc7_2).2) kq_) ?_
      show Gl p e below _ (s₁.setTop (mkF m 10 #[.val (.int p1), .val (.int p2), .val (.int c0), .val (.int c1), .val (.int c2), .unset] []))
      obtain ⟨T3, h3, X3, e3, E3, A3, D3, -, st3⟩ := newO X0 hx hZ hown (w5 hw) (w6 hw) (w7 hw) e0 (g := (mkF m 10 #[.val (.int p1), .val (.int p2), .val (.int c0), .val (.int c1), .val (.int c2), .unset] [])) rfl (hb hby d1_10) (by decide) (by decide)
      obtain ⟨b3, g3⟩ : ∃ z, z = h0.size := ⟨_, rfl⟩
      rw [← g3] at A3 D3 st3
      refine Gl.of st3 ?_
      have Gb3 : n0 ≤ b3 := Nat.le_trans (O0.1 ▸ O0.2.1) (Nat.le_of_eq g3.symm)
      have Jb3 : h0.size ≤ b3 := Nat.le_trans K0.1 (Nat.le_of_eq g3.symm)
      have O3 := O0.ext E3
      have K3 := K0.ext E3
      have hk3 := Nat.le_trans hk0 E3.1
      have F3_value : Fld Z h3 b3 "java/lang/String" "value" "[B" .null := D3 (Or.inr (w21 hw)) (ty := (.array .byte)) (by decide)
      have F3_coder : Fld Z h3 b3 "java/lang/String" "coder" "B" (.int (0 : Int32)) := D3 (Or.inr (w22 hw)) (ty := .byte) (by decide)
      show Gl p e below _ (T3.setTop (mkF m 13 #[.val (.int p1), .val (.int p2), .val (.int c0), .val (.int c1), .val (.int c2), .unset] [(.ref b3)]))
      refine Gl.of (fun _ kq_ => XS.dup X3.here hx rfl (hb hby d1_13) rfl rfl kq_) ?_
      show Gl p e below _ (T3.setTop (mkF m 14 #[.val (.int p1), .val (.int p2), .val (.int c0), .val (.int c1), .val (.int c2), .unset] [(.ref b3), (.ref b3)]))
      refine Gl.of (fun _ kq_ => XS.iconst X3.here hx rfl (hb hby d1_14) kq_) ?_
      show Gl p e below _ (T3.setTop (mkF m 15 #[.val (.int p1), .val (.int p2), .val (.int c0), .val (.int c1), .val (.int c2), .unset] [(.int (0 : Int32)), (.ref b3), (.ref b3)]))
      obtain ⟨T4, h4, k4, X4, e4, E4, A4, st4⟩ := newP (aty := .char) X3 hx hZ (w8 hw) e3 (g := (mkF m 15 #[.val (.int p1), .val (.int p2), .val (.int c0), .val (.int c1), .val (.int c2), .unset] [(.int (0 : Int32)), (.ref b3), (.ref b3)])) rfl (hb hby d1_15) rfl (by decide) (cap := 0) (by decide) (by decide) (by decide) (by decide)
      obtain ⟨b4, g4⟩ : ∃ z, z = h3.size := ⟨_, rfl⟩
      rw [← g4] at A4 st4
      refine Gl.of st4 ?_
      have Gb4 : n0 ≤ b4 := Nat.le_trans (O3.1 ▸ O3.2.1) (Nat.le_of_eq g4.symm)
      have Jb4 : h0.size ≤ b4 := Nat.le_trans K3.1 (Nat.le_of_eq g4.symm)
      have ne_b3_b4 : b3 ≠ b4 := Nat.ne_of_lt (Nat.lt_of_lt_of_le A3.lt (Nat.le_of_eq g4.symm))
      have ec5 := A3.ext E4
      have fc6 := F3_value.ext E4
      have fc7 := F3_coder.ext E4
      have O4 := O3.ext E4
      have K4 := K3.ext E4
      have hk4 := Nat.le_trans hk3 E4.1
      have V4 : Arv Z h4 b4 k4 .char (0 : Int32) [] (.int (0 : Int32)) := (Arv.new A4 (by decide))
      show Gl p e below _ (T4.setTop (mkF m 17 #[.val (.int p1), .val (.int p2), .val (.int c0), .val (.int c1), .val (.int c2), .unset] [(.ref b4), (.ref b3), (.ref b3)]))
      have hRk := hR0.trans (CHr.keep K4 (fun x hx => nomatch hx) hR0.1)
      refine Gl.callIE X4 hx hZ hS0 hk4 (own_el hw) hRk (y := (⟨"java/lang/String", "<init>", "([C)V"⟩ : MethodName)) rfl hown (w9 hw) (w10 hw) (w7 hw) (w11 hw) (desc_ne (by decide)) (rm := { frames := 2, cells := 2, slots := 4, locals := 30 }) (b := b3) (argsL := [(.ref b4)]) (rest := [(.ref b3)]) (rmJ0 l Z a0 hw _ b3 b4 k4 n0 ec5 fc6 fc7 Gb3 V4 ne_b3_b4.symm O4) 1 (by decide) (by decide) (by decide) (by decide) e4 (pc := 17) (Ls := #[.val (.int p1), .val (.int p2), .val (.int c0), .val (.int c1), .val (.int c2), .unset]) (st := [(.ref b4), (.ref b3), (.ref b3)]) (by rw [hml]; rfl) pd_11 rfl rfl (Nat.le_of_eq rfl) (hb hby d1_17) ?_
      intro v8 T8 L8 X8 hS8 hZ hown hQ8
      obtain ⟨rfl, Nq8, Kq8, t8, k8, z8, vs8, Fq8, Vq8, hz8⟩ := hQ8
      have N8 := Fr.app (Fr.nil n0) Nq8
      have ec9 := ec5.keep Kq8
      have vc10 := V4.keep Kq8 (fun q => ne_b3_b4.symm (List.mem_singleton.mp q))
      have O8 := O4.keep Kq8 (allS Gb3 all0)
      have K8 := K4.trans Kq8 (by intro x hx'; cases List.mem_singleton.mp hx'; exact Or.inr Jb3)
      have hk8 := Nat.le_trans hk4 Kq8.1
      show Gl p e below _ (T8.setTop (mkF m 20 #[.val (.int p1), .val (.int p2), .val (.int c0), .val (.int c1), .val (.int c2), .unset] [(.ref b3)]))
      exact Gl.retRW X8 hx hlk hret rfl rfl (hb hby d1_20) rfl (⟨_, rfl, K8, N8, Or.inr ⟨hc1_1, _, _, _, _, _, rfl, ec9, Fq8, Vq8, Or.inl ⟨hc7_2, hz8⟩⟩⟩) hS8 (Nat.le_refl _) (by decide) (by decide)
    · refine Gl.of (fun _ kq_ => XS.ifYes X0.here hx rfl (pc0 := 7) (pc' := 21) rfl (hb hby d1_7) rfl ((if0 _ _).trans (feq hc7_2).2) (by decide) (by decide) kq_) ?_
      show Gl p e below _ (s₁.setTop (mkF m 21 #[.val (.int p1), .val (.int p2), .val (.int c0), .val (.int c1), .val (.int c2), .unset] []))
      refine Gl.of (fun _ kq_ => XS.iloadN X0.here hx rfl (hb hby d1_21) rfl kq_) ?_
      show Gl p e below _ (s₁.setTop (mkF m 22 #[.val (.int p1), .val (.int p2), .val (.int c0), .val (.int c1), .val (.int c2), .unset] [(.int p2)]))
      refine Gl.of (fun _ kq_ => XS.iconst X0.here hx rfl (hb hby d1_22) kq_) ?_
      show Gl p e below _ (s₁.setTop (mkF m 23 #[.val (.int p1), .val (.int p2), .val (.int c0), .val (.int c1), .val (.int c2), .unset] [(.int (1 : Int32)), (.int p2)]))
      by_cases hc23_11 : p2 = (1 : Int32)
      · refine Gl.of (fun _ kq_ => XS.icmpNo X0.here hx rfl (hb hby d1_23) rfl (teq hc23_11).2 kq_) ?_
        show Gl p e below _ (s₁.setTop (mkF m 26 #[.val (.int p1), .val (.int p2), .val (.int c0), .val (.int c1), .val (.int c2), .unset] []))
        refine Gl.of (fun _ kq_ => XS.iloadN X0.here hx rfl (hb hby d1_26) rfl kq_) ?_
        show Gl p e below _ (s₁.setTop (mkF m 27 #[.val (.int p1), .val (.int p2), .val (.int c0), .val (.int c1), .val (.int c2), .unset] [(.int c0)]))
        refine Gl.callS X0 hx hZ (y := (⟨"java/lang/String", "valueOf", "(C)Ljava/lang/String;"⟩ : MethodName)) hown (w105 hw) (w106 hw) (w7 hw) (w107 hw) (desc_ne (by decide)) (rm := { frames := 2, cells := 2, slots := 6, locals := 45 }) (argsL := [(.int c0)]) (rest := []) (rmV l Z a0 hw _ c0 cz n0 SC hcz Sa Sh Sl O0) 0 (by decide) (by decide) (by decide) (by decide) e0 (pc := 27) (Ls := #[.val (.int p1), .val (.int p2), .val (.int c0), .val (.int c1), .val (.int c2), .unset]) (st := [(.int c0)]) (by rw [hml]; rfl) pd_12 rfl rfl (Nat.le_of_eq rfl) (hb hby d1_27) ?_
        intro v12 T12 L12 X12 hQ12
        obtain ⟨x12, t12, k12, z12, vs12, rfl, Ex12, Fq12, Vq12, hz12, Kq12, Nq12⟩ := hQ12
        have N12 := Fr.app (Fr.nil n0) Nq12
        have O12 := O0.keep Kq12 all0
        have K12 := K0.trans Kq12 (by intro x hx'; exact nomatch hx')
        have hk12 := Nat.le_trans hk0 Kq12.1
        show Gl p e below _ (T12.setTop (mkF m 30 #[.val (.int p1), .val (.int p2), .val (.int c0), .val (.int c1), .val (.int c2), .unset] [(.ref x12)]))
        exact Gl.retRW X12 hx hlk hret rfl rfl (hb hby d1_30) rfl (⟨_, rfl, K12, N12, Or.inr ⟨hc1_1, _, _, _, _, _, rfl, Ex12, Fq12, Vq12, Or.inr ⟨hc7_2, hz12⟩⟩⟩) hS0 hk12 (by decide) (by decide)
      · refine Gl.of (fun _ kq_ => XS.icmpYes X0.here hx rfl (pc0 := 23) (pc' := 31) rfl (hb hby d1_23) rfl (feq hc23_11).2 (by decide) (by decide) kq_) ?_
        show Gl p e below _ (s₁.setTop (mkF m 31 #[.val (.int p1), .val (.int p2), .val (.int c0), .val (.int c1), .val (.int c2), .unset] []))
        refine Gl.of (fun _ kq_ => XS.iloadN X0.here hx rfl (hb hby d1_31) rfl kq_) ?_
        show Gl p e below _ (s₁.setTop (mkF m 32 #[.val (.int p1), .val (.int p2), .val (.int c0), .val (.int c1), .val (.int c2), .unset] [(.int p2)]))
        refine Gl.of (fun _ kq_ => XS.iconst X0.here hx rfl (hb hby d1_32) kq_) ?_
        show Gl p e below _ (s₁.setTop (mkF m 33 #[.val (.int p1), .val (.int p2), .val (.int c0), .val (.int c1), .val (.int c2), .unset] [(.int (2 : Int32)), (.int p2)]))
        by_cases hc33_13 : p2 = (2 : Int32)
        · refine Gl.of (fun _ kq_ => XS.icmpNo X0.here hx rfl (hb hby d1_33) rfl (teq hc33_13).2 kq_) ?_
          show Gl p e below _ (s₁.setTop (mkF m 36 #[.val (.int p1), .val (.int p2), .val (.int c0), .val (.int c1), .val (.int c2), .unset] []))
          refine Gl.of (fun _ kq_ => XS.iconst X0.here hx rfl (hb hby d1_36) kq_) ?_
          show Gl p e below _ (s₁.setTop (mkF m 37 #[.val (.int p1), .val (.int p2), .val (.int c0), .val (.int c1), .val (.int c2), .unset] [(.int (2 : Int32))]))
          obtain ⟨T14, h14, k14, X14, e14, E14, A14, st14⟩ := newP (aty := .char) X0 hx hZ (w8 hw) e0 (g := (mkF m 37 #[.val (.int p1), .val (.int p2), .val (.int c0), .val (.int c1), .val (.int c2), .unset] [(.int (2 : Int32))])) rfl (hb hby d1_37) rfl (by decide) (cap := 2) (by decide) (by decide) (by decide) (by decide)
          obtain ⟨b14, g14⟩ : ∃ z, z = h0.size := ⟨_, rfl⟩
          rw [← g14] at A14 st14
          refine Gl.of st14 ?_
          have Gb14 : n0 ≤ b14 := Nat.le_trans (O0.1 ▸ O0.2.1) (Nat.le_of_eq g14.symm)
          have Jb14 : h0.size ≤ b14 := Nat.le_trans K0.1 (Nat.le_of_eq g14.symm)
          have O14 := O0.ext E14
          have K14 := K0.ext E14
          have hk14 := Nat.le_trans hk0 E14.1
          have V14 : Arv Z h14 b14 k14 .char (2 : Int32) [(.int (0 : Int32)), (.int (0 : Int32))] (.int (0 : Int32)) := (Arv.new A14 (by decide)).pad (pad_rep [] (.int (0 : Int32)) 2)
          show Gl p e below _ (T14.setTop (mkF m 39 #[.val (.int p1), .val (.int p2), .val (.int c0), .val (.int c1), .val (.int c2), .unset] [(.ref b14)]))
          refine Gl.of (fun _ kq_ => XS.astore X14.here hx rfl (hb hby d1_39) rfl rfl (l' := #[.val (.int p1), .val (.int p2), .val (.int c0), .val (.int c1), .val (.int c2), .val (.ref b14)]) rfl kq_) ?_
          show Gl p e below _ (T14.setTop (mkF m 41 #[.val (.int p1), .val (.int p2), .val (.int c0), .val (.int c1), .val (.int c2), .val (.ref b14)] []))
          refine Gl.of (fun _ kq_ => XS.aload X14.here hx rfl (hb hby d1_41) rfl rfl kq_) ?_
          show Gl p e below _ (T14.setTop (mkF m 43 #[.val (.int p1), .val (.int p2), .val (.int c0), .val (.int c1), .val (.int c2), .val (.ref b14)] [(.ref b14)]))
          refine Gl.of (fun _ kq_ => XS.iconst X14.here hx rfl (hb hby d1_43) kq_) ?_
          show Gl p e below _ (T14.setTop (mkF m 44 #[.val (.int p1), .val (.int p2), .val (.int c0), .val (.int c1), .val (.int c2), .val (.ref b14)] [(.int (0 : Int32)), (.ref b14)]))
          refine Gl.of (fun _ kq_ => XS.iloadN X14.here hx rfl (hb hby d1_44) rfl kq_) ?_
          show Gl p e below _ (T14.setTop (mkF m 45 #[.val (.int p1), .val (.int p2), .val (.int c0), .val (.int c1), .val (.int c2), .val (.ref b14)] [(.int c0), (.int (0 : Int32)), (.ref b14)]))
          obtain ⟨zcl15, zAr15, zq15, zS15, zM15, zH15, zG15⟩ := id V14
          obtain ⟨T16, h16, X16, e16, W16, st16⟩ := stC X14 hx hZ e14 zAr15 (j := (0 : Int32)) (inb_of zS15 ⟨by decide, by decide⟩) (g := (mkF m 45 #[.val (.int p1), .val (.int p2), .val (.int c0), .val (.int c1), .val (.int c2), .val (.ref b14)] [(.int c0), (.int (0 : Int32)), (.ref b14)])) rfl rfl (hb hby d1_45)
          refine Gl.of st16 ?_
          have V16 : Arv Z h16 b14 k14 .char (2 : Int32) [(.int (nar .char c0)), (.int (0 : Int32))] (.int (0 : Int32)) := Arv.set zAr15 zq15 zS15 zM15 zH15 zG15 (fits_nar_char _) W16 0 rfl (Nat.le_of_ble_eq_true rfl)
          have N16 := Fr.snoc X16 (Fr.nil n0) Gb14
          have O16 := O14.wr W16 Gb14
          have K16 := K14.wr W16 (Or.inr Jb14)
          have hk16 := Nat.le_trans hk14 (Keep.of_wr W16).1
          show Gl p e below _ (T16.setTop (mkF m 46 #[.val (.int p1), .val (.int p2), .val (.int c0), .val (.int c1), .val (.int c2), .val (.ref b14)] []))
          refine Gl.of (fun _ kq_ => XS.aload X16.here hx rfl (hb hby d1_46) rfl rfl kq_) ?_
          show Gl p e below _ (T16.setTop (mkF m 48 #[.val (.int p1), .val (.int p2), .val (.int c0), .val (.int c1), .val (.int c2), .val (.ref b14)] [(.ref b14)]))
          refine Gl.of (fun _ kq_ => XS.iconst X16.here hx rfl (hb hby d1_48) kq_) ?_
          show Gl p e below _ (T16.setTop (mkF m 49 #[.val (.int p1), .val (.int p2), .val (.int c0), .val (.int c1), .val (.int c2), .val (.ref b14)] [(.int (1 : Int32)), (.ref b14)]))
          refine Gl.of (fun _ kq_ => XS.iloadN X16.here hx rfl (hb hby d1_49) rfl kq_) ?_
          show Gl p e below _ (T16.setTop (mkF m 50 #[.val (.int p1), .val (.int p2), .val (.int c0), .val (.int c1), .val (.int c2), .val (.ref b14)] [(.int c1), (.int (1 : Int32)), (.ref b14)]))
          obtain ⟨zcl17, zAr17, zq17, zS17, zM17, zH17, zG17⟩ := id V16
          obtain ⟨T18, h18, X18, e18, W18, st18⟩ := stC X16 hx hZ e16 zAr17 (j := (1 : Int32)) (inb_of zS17 ⟨by decide, by decide⟩) (g := (mkF m 50 #[.val (.int p1), .val (.int p2), .val (.int c0), .val (.int c1), .val (.int c2), .val (.ref b14)] [(.int c1), (.int (1 : Int32)), (.ref b14)])) rfl rfl (hb hby d1_50)
          refine Gl.of st18 ?_
          have V18 : Arv Z h18 b14 k14 .char (2 : Int32) [(.int (nar .char c0)), (.int (nar .char c1))] (.int (0 : Int32)) := Arv.set zAr17 zq17 zS17 zM17 zH17 zG17 (fits_nar_char _) W18 1 rfl (Nat.le_of_ble_eq_true rfl)
          have N18 := Fr.snoc X18 N16 Gb14
          have O18 := O16.wr W18 Gb14
          have K18 := K16.wr W18 (Or.inr Jb14)
          have hk18 := Nat.le_trans hk16 (Keep.of_wr W18).1
          show Gl p e below _ (T18.setTop (mkF m 51 #[.val (.int p1), .val (.int p2), .val (.int c0), .val (.int c1), .val (.int c2), .val (.ref b14)] []))
          obtain ⟨T19, h19, X19, e19, E19, A19, D19, -, st19⟩ := newO X18 hx hZ hown (w5 hw) (w6 hw) (w7 hw) e18 (g := (mkF m 51 #[.val (.int p1), .val (.int p2), .val (.int c0), .val (.int c1), .val (.int c2), .val (.ref b14)] [])) rfl (hb hby d1_51) (by decide) (by decide)
          obtain ⟨b19, g19⟩ : ∃ z, z = h18.size := ⟨_, rfl⟩
          rw [← g19] at A19 D19 st19
          refine Gl.of st19 ?_
          have Gb19 : n0 ≤ b19 := Nat.le_trans (O18.1 ▸ O18.2.1) (Nat.le_of_eq g19.symm)
          have Jb19 : h0.size ≤ b19 := Nat.le_trans K18.1 (Nat.le_of_eq g19.symm)
          have ne_b14_b19 : b14 ≠ b19 := Nat.ne_of_lt (Nat.lt_of_lt_of_le V18.lt (Nat.le_of_eq g19.symm))
          have vc20 := V18.ext E19
          have O19 := O18.ext E19
          have K19 := K18.ext E19
          have hk19 := Nat.le_trans hk18 E19.1
          have F19_value : Fld Z h19 b19 "java/lang/String" "value" "[B" .null := D19 (Or.inr (w21 hw)) (ty := (.array .byte)) (by decide)
          have F19_coder : Fld Z h19 b19 "java/lang/String" "coder" "B" (.int (0 : Int32)) := D19 (Or.inr (w22 hw)) (ty := .byte) (by decide)
          show Gl p e below _ (T19.setTop (mkF m 54 #[.val (.int p1), .val (.int p2), .val (.int c0), .val (.int c1), .val (.int c2), .val (.ref b14)] [(.ref b19)]))
          refine Gl.of (fun _ kq_ => XS.dup X19.here hx rfl (hb hby d1_54) rfl rfl kq_) ?_
          show Gl p e below _ (T19.setTop (mkF m 55 #[.val (.int p1), .val (.int p2), .val (.int c0), .val (.int c1), .val (.int c2), .val (.ref b14)] [(.ref b19), (.ref b19)]))
          refine Gl.of (fun _ kq_ => XS.aload X19.here hx rfl (hb hby d1_55) rfl rfl kq_) ?_
          show Gl p e below _ (T19.setTop (mkF m 57 #[.val (.int p1), .val (.int p2), .val (.int c0), .val (.int c1), .val (.int c2), .val (.ref b14)] [(.ref b14), (.ref b19), (.ref b19)]))
          refine Gl.callI X19 hx hZ (y := (⟨"java/lang/String", "<init>", "([C)V"⟩ : MethodName)) rfl hown (w9 hw) (w10 hw) (w7 hw) (w11 hw) (desc_ne (by decide)) (rm := { frames := 5, cells := 2, slots := 6, locals := 84 }) (b := b19) (argsL := [(.ref b14)]) (rest := [(.ref b19)]) (rmJ2 l Z a0 hw _ b19 b14 k14 (nar .char c0) (nar .char c1) cz n0 A19 F19_value F19_coder Gb19 vc20 ne_b14_b19 (own_nr _) (own_nr _) SC hcz Sa Sh Sl O19) 1 (by decide) (by decide) (by decide) (by decide) e19 (pc := 57) (Ls := #[.val (.int p1), .val (.int p2), .val (.int c0), .val (.int c1), .val (.int c2), .val (.ref b14)]) (st := [(.ref b14), (.ref b19), (.ref b19)]) (by rw [hml]; rfl) pd_11 rfl rfl (Nat.le_of_eq rfl) (hb hby d1_57) ?_
          intro v21 T21 L21 X21 hQ21
          obtain ⟨rfl, Nq21, Kq21, t21, k21, z21, vs21, Fq21, Vq21, hz21⟩ := hQ21
          have N21 := Fr.app N18 Nq21
          have vc22 := vc20.keep Kq21 (fun q => ne_b14_b19 (List.mem_singleton.mp q))
          have ec23 := A19.keep Kq21
          have O21 := O19.keep Kq21 (allS Gb19 all0)
          have K21 := K19.trans Kq21 (by intro x hx'; cases List.mem_singleton.mp hx'; exact Or.inr Jb19)
          have hk21 := Nat.le_trans hk19 Kq21.1
          show Gl p e below _ (T21.setTop (mkF m 60 #[.val (.int p1), .val (.int p2), .val (.int c0), .val (.int c1), .val (.int c2), .val (.ref b14)] [(.ref b19)]))
          exact Gl.retRW X21 hx hlk hret rfl rfl (hb hby d1_60) rfl (⟨_, rfl, K21, N21, Or.inr ⟨hc1_1, _, _, _, _, _, rfl, ec23, Fq21, Vq21, Or.inr ⟨hc7_2, hz21⟩⟩⟩) hS0 hk21 (by decide) (by decide)
        · refine Gl.of (fun _ kq_ => XS.icmpYes X0.here hx rfl (pc0 := 33) (pc' := 61) rfl (hb hby d1_33) rfl (feq hc33_13).2 (by decide) (by decide) kq_) ?_
          show Gl p e below _ (s₁.setTop (mkF m 61 #[.val (.int p1), .val (.int p2), .val (.int c0), .val (.int c1), .val (.int c2), .unset] []))
          refine Gl.of (fun _ kq_ => XS.iconst X0.here hx rfl (hb hby d1_61) kq_) ?_
          show Gl p e below _ (s₁.setTop (mkF m 62 #[.val (.int p1), .val (.int p2), .val (.int c0), .val (.int c1), .val (.int c2), .unset] [(.int (3 : Int32))]))
          obtain ⟨T24, h24, k24, X24, e24, E24, A24, st24⟩ := newP (aty := .char) X0 hx hZ (w8 hw) e0 (g := (mkF m 62 #[.val (.int p1), .val (.int p2), .val (.int c0), .val (.int c1), .val (.int c2), .unset] [(.int (3 : Int32))])) rfl (hb hby d1_62) rfl (by decide) (cap := 3) (by decide) (by decide) (by decide) (by decide)
          obtain ⟨b24, g24⟩ : ∃ z, z = h0.size := ⟨_, rfl⟩
          rw [← g24] at A24 st24
          refine Gl.of st24 ?_
          have Gb24 : n0 ≤ b24 := Nat.le_trans (O0.1 ▸ O0.2.1) (Nat.le_of_eq g24.symm)
          have Jb24 : h0.size ≤ b24 := Nat.le_trans K0.1 (Nat.le_of_eq g24.symm)
          have O24 := O0.ext E24
          have K24 := K0.ext E24
          have hk24 := Nat.le_trans hk0 E24.1
          have V24 : Arv Z h24 b24 k24 .char (3 : Int32) [(.int (0 : Int32)), (.int (0 : Int32)), (.int (0 : Int32))] (.int (0 : Int32)) := (Arv.new A24 (by decide)).pad (pad_rep [] (.int (0 : Int32)) 3)
          show Gl p e below _ (T24.setTop (mkF m 64 #[.val (.int p1), .val (.int p2), .val (.int c0), .val (.int c1), .val (.int c2), .unset] [(.ref b24)]))
          refine Gl.of (fun _ kq_ => XS.astore X24.here hx rfl (hb hby d1_64) rfl rfl (l' := #[.val (.int p1), .val (.int p2), .val (.int c0), .val (.int c1), .val (.int c2), .val (.ref b24)]) rfl kq_) ?_
          show Gl p e below _ (T24.setTop (mkF m 66 #[.val (.int p1), .val (.int p2), .val (.int c0), .val (.int c1), .val (.int c2), .val (.ref b24)] []))
          refine Gl.of (fun _ kq_ => XS.aload X24.here hx rfl (hb hby d1_66) rfl rfl kq_) ?_
          show Gl p e below _ (T24.setTop (mkF m 68 #[.val (.int p1), .val (.int p2), .val (.int c0), .val (.int c1), .val (.int c2), .val (.ref b24)] [(.ref b24)]))
          refine Gl.of (fun _ kq_ => XS.iconst X24.here hx rfl (hb hby d1_68) kq_) ?_
          show Gl p e below _ (T24.setTop (mkF m 69 #[.val (.int p1), .val (.int p2), .val (.int c0), .val (.int c1), .val (.int c2), .val (.ref b24)] [(.int (0 : Int32)), (.ref b24)]))
          refine Gl.of (fun _ kq_ => XS.iloadN X24.here hx rfl (hb hby d1_69) rfl kq_) ?_
          show Gl p e below _ (T24.setTop (mkF m 70 #[.val (.int p1), .val (.int p2), .val (.int c0), .val (.int c1), .val (.int c2), .val (.ref b24)] [(.int c0), (.int (0 : Int32)), (.ref b24)]))
          obtain ⟨zcl25, zAr25, zq25, zS25, zM25, zH25, zG25⟩ := id V24
          obtain ⟨T26, h26, X26, e26, W26, st26⟩ := stC X24 hx hZ e24 zAr25 (j := (0 : Int32)) (inb_of zS25 ⟨by decide, by decide⟩) (g := (mkF m 70 #[.val (.int p1), .val (.int p2), .val (.int c0), .val (.int c1), .val (.int c2), .val (.ref b24)] [(.int c0), (.int (0 : Int32)), (.ref b24)])) rfl rfl (hb hby d1_70)
          refine Gl.of st26 ?_
          have V26 : Arv Z h26 b24 k24 .char (3 : Int32) [(.int (nar .char c0)), (.int (0 : Int32)), (.int (0 : Int32))] (.int (0 : Int32)) := Arv.set zAr25 zq25 zS25 zM25 zH25 zG25 (fits_nar_char _) W26 0 rfl (Nat.le_of_ble_eq_true rfl)
          have N26 := Fr.snoc X26 (Fr.nil n0) Gb24
          have O26 := O24.wr W26 Gb24
          have K26 := K24.wr W26 (Or.inr Jb24)
          have hk26 := Nat.le_trans hk24 (Keep.of_wr W26).1
          show Gl p e below _ (T26.setTop (mkF m 71 #[.val (.int p1), .val (.int p2), .val (.int c0), .val (.int c1), .val (.int c2), .val (.ref b24)] []))
          refine Gl.of (fun _ kq_ => XS.aload X26.here hx rfl (hb hby d1_71) rfl rfl kq_) ?_
          show Gl p e below _ (T26.setTop (mkF m 73 #[.val (.int p1), .val (.int p2), .val (.int c0), .val (.int c1), .val (.int c2), .val (.ref b24)] [(.ref b24)]))
          refine Gl.of (fun _ kq_ => XS.iconst X26.here hx rfl (hb hby d1_73) kq_) ?_
          show Gl p e below _ (T26.setTop (mkF m 74 #[.val (.int p1), .val (.int p2), .val (.int c0), .val (.int c1), .val (.int c2), .val (.ref b24)] [(.int (1 : Int32)), (.ref b24)]))
          refine Gl.of (fun _ kq_ => XS.iloadN X26.here hx rfl (hb hby d1_74) rfl kq_) ?_
          show Gl p e below _ (T26.setTop (mkF m 75 #[.val (.int p1), .val (.int p2), .val (.int c0), .val (.int c1), .val (.int c2), .val (.ref b24)] [(.int c1), (.int (1 : Int32)), (.ref b24)]))
          obtain ⟨zcl27, zAr27, zq27, zS27, zM27, zH27, zG27⟩ := id V26
          obtain ⟨T28, h28, X28, e28, W28, st28⟩ := stC X26 hx hZ e26 zAr27 (j := (1 : Int32)) (inb_of zS27 ⟨by decide, by decide⟩) (g := (mkF m 75 #[.val (.int p1), .val (.int p2), .val (.int c0), .val (.int c1), .val (.int c2), .val (.ref b24)] [(.int c1), (.int (1 : Int32)), (.ref b24)])) rfl rfl (hb hby d1_75)
          refine Gl.of st28 ?_
          have V28 : Arv Z h28 b24 k24 .char (3 : Int32) [(.int (nar .char c0)), (.int (nar .char c1)), (.int (0 : Int32))] (.int (0 : Int32)) := Arv.set zAr27 zq27 zS27 zM27 zH27 zG27 (fits_nar_char _) W28 1 rfl (Nat.le_of_ble_eq_true rfl)
          have N28 := Fr.snoc X28 N26 Gb24
          have O28 := O26.wr W28 Gb24
          have K28 := K26.wr W28 (Or.inr Jb24)
          have hk28 := Nat.le_trans hk26 (Keep.of_wr W28).1
          show Gl p e below _ (T28.setTop (mkF m 76 #[.val (.int p1), .val (.int p2), .val (.int c0), .val (.int c1), .val (.int c2), .val (.ref b24)] []))
          refine Gl.of (fun _ kq_ => XS.aload X28.here hx rfl (hb hby d1_76) rfl rfl kq_) ?_
          show Gl p e below _ (T28.setTop (mkF m 78 #[.val (.int p1), .val (.int p2), .val (.int c0), .val (.int c1), .val (.int c2), .val (.ref b24)] [(.ref b24)]))
          refine Gl.of (fun _ kq_ => XS.iconst X28.here hx rfl (hb hby d1_78) kq_) ?_
          show Gl p e below _ (T28.setTop (mkF m 79 #[.val (.int p1), .val (.int p2), .val (.int c0), .val (.int c1), .val (.int c2), .val (.ref b24)] [(.int (2 : Int32)), (.ref b24)]))
          refine Gl.of (fun _ kq_ => XS.iload X28.here hx rfl (hb hby d1_79) rfl kq_) ?_
          show Gl p e below _ (T28.setTop (mkF m 81 #[.val (.int p1), .val (.int p2), .val (.int c0), .val (.int c1), .val (.int c2), .val (.ref b24)] [(.int c2), (.int (2 : Int32)), (.ref b24)]))
          obtain ⟨zcl29, zAr29, zq29, zS29, zM29, zH29, zG29⟩ := id V28
          obtain ⟨T30, h30, X30, e30, W30, st30⟩ := stC X28 hx hZ e28 zAr29 (j := (2 : Int32)) (inb_of zS29 ⟨by decide, by decide⟩) (g := (mkF m 81 #[.val (.int p1), .val (.int p2), .val (.int c0), .val (.int c1), .val (.int c2), .val (.ref b24)] [(.int c2), (.int (2 : Int32)), (.ref b24)])) rfl rfl (hb hby d1_81)
          refine Gl.of st30 ?_
          have V30 : Arv Z h30 b24 k24 .char (3 : Int32) [(.int (nar .char c0)), (.int (nar .char c1)), (.int (nar .char c2))] (.int (0 : Int32)) := Arv.set zAr29 zq29 zS29 zM29 zH29 zG29 (fits_nar_char _) W30 2 rfl (Nat.le_of_ble_eq_true rfl)
          have N30 := Fr.snoc X30 N28 Gb24
          have O30 := O28.wr W30 Gb24
          have K30 := K28.wr W30 (Or.inr Jb24)
          have hk30 := Nat.le_trans hk28 (Keep.of_wr W30).1
          show Gl p e below _ (T30.setTop (mkF m 82 #[.val (.int p1), .val (.int p2), .val (.int c0), .val (.int c1), .val (.int c2), .val (.ref b24)] []))
          obtain ⟨T31, h31, X31, e31, E31, A31, D31, -, st31⟩ := newO X30 hx hZ hown (w5 hw) (w6 hw) (w7 hw) e30 (g := (mkF m 82 #[.val (.int p1), .val (.int p2), .val (.int c0), .val (.int c1), .val (.int c2), .val (.ref b24)] [])) rfl (hb hby d1_82) (by decide) (by decide)
          obtain ⟨b31, g31⟩ : ∃ z, z = h30.size := ⟨_, rfl⟩
          rw [← g31] at A31 D31 st31
          refine Gl.of st31 ?_
          have Gb31 : n0 ≤ b31 := Nat.le_trans (O30.1 ▸ O30.2.1) (Nat.le_of_eq g31.symm)
          have Jb31 : h0.size ≤ b31 := Nat.le_trans K30.1 (Nat.le_of_eq g31.symm)
          have ne_b24_b31 : b24 ≠ b31 := Nat.ne_of_lt (Nat.lt_of_lt_of_le V30.lt (Nat.le_of_eq g31.symm))
          have vc32 := V30.ext E31
          have O31 := O30.ext E31
          have K31 := K30.ext E31
          have hk31 := Nat.le_trans hk30 E31.1
          have F31_value : Fld Z h31 b31 "java/lang/String" "value" "[B" .null := D31 (Or.inr (w21 hw)) (ty := (.array .byte)) (by decide)
          have F31_coder : Fld Z h31 b31 "java/lang/String" "coder" "B" (.int (0 : Int32)) := D31 (Or.inr (w22 hw)) (ty := .byte) (by decide)
          show Gl p e below _ (T31.setTop (mkF m 85 #[.val (.int p1), .val (.int p2), .val (.int c0), .val (.int c1), .val (.int c2), .val (.ref b24)] [(.ref b31)]))
          refine Gl.of (fun _ kq_ => XS.dup X31.here hx rfl (hb hby d1_85) rfl rfl kq_) ?_
          show Gl p e below _ (T31.setTop (mkF m 86 #[.val (.int p1), .val (.int p2), .val (.int c0), .val (.int c1), .val (.int c2), .val (.ref b24)] [(.ref b31), (.ref b31)]))
          refine Gl.of (fun _ kq_ => XS.aload X31.here hx rfl (hb hby d1_86) rfl rfl kq_) ?_
          show Gl p e below _ (T31.setTop (mkF m 88 #[.val (.int p1), .val (.int p2), .val (.int c0), .val (.int c1), .val (.int c2), .val (.ref b24)] [(.ref b24), (.ref b31), (.ref b31)]))
          refine Gl.callI X31 hx hZ (y := (⟨"java/lang/String", "<init>", "([C)V"⟩ : MethodName)) rfl hown (w9 hw) (w10 hw) (w7 hw) (w11 hw) (desc_ne (by decide)) (rm := { frames := 5, cells := 2, slots := 9, locals := 84 }) (b := b31) (argsL := [(.ref b24)]) (rest := [(.ref b31)]) (rmJ3 l Z a0 hw _ b31 b24 k24 (nar .char c0) (nar .char c1) (nar .char c2) cz n0 A31 F31_value F31_coder Gb31 vc32 ne_b24_b31 (own_nr _) (own_nr _) (own_nr _) SC hcz Sa Sh Sl O31) 1 (by decide) (by decide) (by decide) (by decide) e31 (pc := 88) (Ls := #[.val (.int p1), .val (.int p2), .val (.int c0), .val (.int c1), .val (.int c2), .val (.ref b24)]) (st := [(.ref b24), (.ref b31), (.ref b31)]) (by rw [hml]; rfl) pd_11 rfl rfl (Nat.le_of_eq rfl) (hb hby d1_88) ?_
          intro v33 T33 L33 X33 hQ33
          obtain ⟨rfl, Nq33, Kq33, t33, k33, z33, vs33, Fq33, Vq33, hz33⟩ := hQ33
          have N33 := Fr.app N30 Nq33
          have vc34 := vc32.keep Kq33 (fun q => ne_b24_b31 (List.mem_singleton.mp q))
          have ec35 := A31.keep Kq33
          have O33 := O31.keep Kq33 (allS Gb31 all0)
          have K33 := K31.trans Kq33 (by intro x hx'; cases List.mem_singleton.mp hx'; exact Or.inr Jb31)
          have hk33 := Nat.le_trans hk31 Kq33.1
          show Gl p e below _ (T33.setTop (mkF m 91 #[.val (.int p1), .val (.int p2), .val (.int c0), .val (.int c1), .val (.int c2), .val (.ref b24)] [(.ref b31)]))
          exact Gl.retRW X33 hx hlk hret rfl rfl (hb hby d1_91) rfl (⟨_, rfl, K33, N33, Or.inr ⟨hc1_1, _, _, _, _, _, rfl, ec35, Fq33, Vq33, Or.inr ⟨hc7_2, hz33⟩⟩⟩) hS0 hk33 (by decide) (by decide)
  · refine Gl.of (fun _ kq_ => XS.ifNo X0.here hx rfl (hb hby d1_1) rfl ((if0 _ _).trans (feq hc1_1).1) kq_) ?_
    show Gl p e below _ (s₁.setTop (mkF m 4 #[.val (.int p1), .val (.int p2), .val (.int c0), .val (.int c1), .val (.int c2), .unset] []))
    refine Gl.of (fun _ kq_ => XS.aconstNull X0.here hx rfl (hb hby d1_4) kq_) ?_
    show Gl p e below _ (s₁.setTop (mkF m 5 #[.val (.int p1), .val (.int p2), .val (.int c0), .val (.int c1), .val (.int c2), .unset] [.null]))
    exact Gl.retRW X0 hx hlk hret rfl rfl (hb hby d1_5) e0 (⟨_, rfl, K0, (Fr.nil n0), Or.inl ⟨hc1_1, rfl⟩⟩) hS0 hk0 (by decide) (by decide)
theorem ef_36 (m : MethodId) (x0 : Addr) : entryFrame m #[(.ref x0)] 1 = mkF m 0 #[.val (.ref x0)] [] := by first | (simp [entryFrame, mkF, argsToLocals, Value.category, maxLocals]; done) | rfl
theorem pn_4 : plainName "java/util/AbstractCollection" = true := by first | (simp [plainName, overriddenIn]; done) | decide +kernel
theorem d8_0 : decode jdk_22_method_1_code 0 = .ok (.aload_n 0, 1) := by decide +kernel
theorem d8_1 : decode jdk_22_method_1_code 1 = .ok (.invokespecial 1, 3) := by decide +kernel
theorem w52 {Z : State} {a0 : Array Value} (hw : ∀ d ∈ tables_1, d.before a0 Z = true) : (Jvm.Cond.methodLink "java/util/AbstractCollection" (1 : Nat) ({ cls := "java/lang/Object", name := "<init>", desc := "()V" } : Jvm.MethodName)).before a0 Z = true := hw _ (List.mem_of_getElem? (i := 52) rfl)
theorem d8_4 : decode jdk_22_method_1_code 4 = .ok (.return_, 1) := by decide +kernel
set_option maxRecDepth 65536 in
set_option maxHeartbeats 40000000 in
theorem rmA3 (l : Launch) (Z : State) (a0 : Array Value) (hw : ∀ d ∈ tables_1, d.before a0 Z = true) (h0 : Heap) (a1 : Addr) : Con l Z (⟨"java/util/AbstractCollection", "<init>", "()V"⟩ : MethodName) jdk_22_method_1_code 1 none [] ({ frames := 1, cells := 0, slots := 0, locals := 12 } : Room) 0 0 #[(.ref a1)] h0 (Pur (fun v => v = none) h0) := by
  refine Con.intro (plainFor_of_name pn_4) ?_
  intro p e s m below meth c s₁ X0 hx hby hml hZ hown hnm hret hlk e0 hs0
  refine Gl.of (fun _ kq_ => castTop (ef_36 m a1) kq_) ?_
  show Gl p e below _ (s₁.setTop (mkF m 0 #[.val (.ref a1)] []))
  refine Gl.of (fun _ kq_ => XS.aloadN X0.here hx rfl (hb hby d8_0) rfl rfl kq_) ?_
  show Gl p e below _ (s₁.setTop (mkF m 1 #[.val (.ref a1)] [(.ref a1)]))
  obtain ⟨T1, X1, e1, st1⟩ := initO X0 hx hZ hown (w52 hw) (w17 hw) (w18 hw) e0 (g := (mkF m 1 #[.val (.ref a1)] [(.ref a1)])) rfl (by rw [hml]; rfl) rfl (hb hby d8_1) (by decide) (W := 0) (by show 2 * 0 + _ ≤ _; exact Nat.le_of_eq rfl) (by decide)
  refine Gl.of st1 ?_
  show Gl p e below _ (T1.setTop (mkF m 4 #[.val (.ref a1)] []))
  exact Gl.ret0 X1 hx hlk hret (hb hby d8_4) e1 (⟨rfl, rfl, rfl⟩) (by decide) (by decide)
theorem ef_37 (m : MethodId) (x0 : Addr) : entryFrame m #[(.ref x0)] 1 = mkF m 0 #[.val (.ref x0)] [] := by first | (simp [entryFrame, mkF, argsToLocals, Value.category, maxLocals]; done) | rfl
theorem pn_5 : plainName "java/util/AbstractList" = true := by first | (simp [plainName, overriddenIn]; done) | decide +kernel
theorem d7_0 : decode jdk_39_method_1_code 0 = .ok (.aload_n 0, 1) := by decide +kernel
theorem d7_1 : decode jdk_39_method_1_code 1 = .ok (.invokespecial 1, 3) := by decide +kernel
theorem pd_13 : parseMethodDescriptor "()V" = some ⟨[], none⟩ := by decide +kernel
theorem w46 {Z : State} {a0 : Array Value} (hw : ∀ d ∈ tables_1, d.before a0 Z = true) : (Jvm.Cond.methodLink "java/util/AbstractList" (1 : Nat) ({ cls := "java/util/AbstractCollection", name := "<init>", desc := "()V" } : Jvm.MethodName)).before a0 Z = true := hw _ (List.mem_of_getElem? (i := 46) rfl)
theorem w47 {Z : State} {a0 : Array Value} (hw : ∀ d ∈ tables_1, d.before a0 Z = true) : (Jvm.Cond.instanceMethod ({ cls := "java/util/AbstractCollection", name := "<init>", desc := "()V" } : Jvm.MethodName)).before a0 Z = true := hw _ (List.mem_of_getElem? (i := 47) rfl)
theorem w50 {Z : State} {a0 : Array Value} (hw : ∀ d ∈ tables_1, d.before a0 Z = true) : (Jvm.Cond.initialized "java/util/AbstractCollection").before a0 Z = true := hw _ (List.mem_of_getElem? (i := 50) rfl)
theorem w51 {Z : State} {a0 : Array Value} (hw : ∀ d ∈ tables_1, d.before a0 Z = true) : (Jvm.Cond.code ({ cls := "java/util/AbstractCollection", name := "<init>", desc := "()V" } : Jvm.MethodName) jdk_22_method_1_code (1 : Nat) (Option.none : Option Jvm.ClassFile.FieldType)).before a0 Z = true := hw _ (List.mem_of_getElem? (i := 51) rfl)
theorem d7_4 : decode jdk_39_method_1_code 4 = .ok (.aload_n 0, 1) := by decide +kernel
theorem d7_5 : decode jdk_39_method_1_code 5 = .ok (.iconst 0, 1) := by decide +kernel
theorem d7_6 : decode jdk_39_method_1_code 6 = .ok (.putfield 7, 3) := by decide +kernel
theorem w53 {Z : State} {a0 : Array Value} (hw : ∀ d ∈ tables_1, d.before a0 Z = true) : (Jvm.Cond.fieldLink "java/util/AbstractList" (7 : Nat) "java/util/AbstractList" "modCount" "I").before a0 Z = true := hw _ (List.mem_of_getElem? (i := 53) rfl)
theorem w54 {Z : State} {a0 : Array Value} (hw : ∀ d ∈ tables_1, d.before a0 Z = true) : (Jvm.Cond.lays "java/util/ArrayList" "java/util/AbstractList" "modCount" "I").before a0 Z = true := hw _ (List.mem_of_getElem? (i := 54) rfl)
theorem w35 {Z : State} {a0 : Array Value} (hw : ∀ d ∈ tables_1, d.before a0 Z = true) : (Jvm.Cond.instantiable "java/util/ArrayList" (3 : Nat)).before a0 Z = true := hw _ (List.mem_of_getElem? (i := 35) rfl)
theorem w57 {Z : State} {a0 : Array Value} (hw : ∀ d ∈ tables_1, d.before a0 Z = true) : (Jvm.Cond.lays "java/util/ArrayList" "java/util/ArrayList" "elementData" "[Ljava/lang/Object;").before a0 Z = true := hw _ (List.mem_of_getElem? (i := 57) rfl)
theorem d7_9 : decode jdk_39_method_1_code 9 = .ok (.return_, 1) := by decide +kernel
set_option maxRecDepth 65536 in
set_option maxHeartbeats 40000000 in
theorem rmA2 (l : Launch) (Z : State) (a0 : Array Value) (hw : ∀ d ∈ tables_1, d.before a0 Z = true) (h0 : Heap) (a1 : Addr) (n0 : Nat) (E1 : Exa Z h0 a1 "java/util/ArrayList") (Fm : Fld Z h0 a1 "java/util/AbstractList" "modCount" "I" (.int 0)) (Fe : Fld Z h0 a1 "java/util/ArrayList" "elementData" "[Ljava/lang/Object;" .null) (Ga1 : n0 ≤ a1) (O0 : Old Z n0 h0) : Con l Z (⟨"java/util/AbstractList", "<init>", "()V"⟩ : MethodName) jdk_39_method_1_code 1 none [] ({ frames := 2, cells := 0, slots := 0, locals := 24 } : Room) 0 0 #[(.ref a1)] h0 (fun v h L => v = none ∧ Fr n0 L ∧ Keep h0 h [a1] ∧ Fld Z h a1 "java/util/ArrayList" "elementData" "[Ljava/lang/Object;" .null) := by
  refine Con.intro (plainFor_of_name pn_5) ?_
  intro p e s m below meth c s₁ X0 hx hby hml hZ hown hnm hret hlk e0 hs0
  refine Gl.of (fun _ kq_ => castTop (ef_37 m a1) kq_) ?_
  have K0 := Keep.refl h0 [a1]
  show Gl p e below _ (s₁.setTop (mkF m 0 #[.val (.ref a1)] []))
  refine Gl.of (fun _ kq_ => XS.aloadN X0.here hx rfl (hb hby d7_0) rfl rfl kq_) ?_
  show Gl p e below _ (s₁.setTop (mkF m 1 #[.val (.ref a1)] [(.ref a1)]))
  refine Gl.callI0 X0 hx hZ (y := (⟨"java/util/AbstractCollection", "<init>", "()V"⟩ : MethodName)) rfl hown (w46 hw) (w47 hw) (w50 hw) (w51 hw) (desc_ne (by decide)) (b := a1) (argsL := []) (rest := []) (rmA3 l Z a0 hw _ a1) 0 (by decide) (by decide) e0 (pc := 1) (Ls := #[.val (.ref a1)]) (st := [(.ref a1)]) (by rw [hml]; rfl) pd_13 rfl rfl (Nat.le_of_eq rfl) (hb hby d7_1) (by decide) (by decide) ?_
  intro v1 T1 X1 e1 hv1
  subst hv1
  show Gl p e below _ (T1.setTop (mkF m 4 #[.val (.ref a1)] []))
  refine Gl.of (fun _ kq_ => XS.aloadN X1.here hx rfl (hb hby d7_4) rfl rfl kq_) ?_
  show Gl p e below _ (T1.setTop (mkF m 5 #[.val (.ref a1)] [(.ref a1)]))
  refine Gl.of (fun _ kq_ => XS.iconst X1.here hx rfl (hb hby d7_5) kq_) ?_
  show Gl p e below _ (T1.setTop (mkF m 6 #[.val (.ref a1)] [(.int (0 : Int32)), (.ref a1)]))
  obtain ⟨T2, h2, X2, e2, W2, st2⟩ := putF X1 hx hZ hown (host := "") (Or.inl (w53 hw)) Via.refl e1 Fm E1 (Or.inl (w54 hw)) (w35 hw) (ty := .int) (by decide) rfl rfl (g := (mkF m 6 #[.val (.ref a1)] [(.int (0 : Int32)), (.ref a1)])) rfl rfl (hb hby d7_6)
  refine Gl.of st2 ?_
  have F2 : Fld Z h2 a1 "java/util/AbstractList" "modCount" "I" (.int (0 : Int32)) := Fm.same W2
  have ec3 := E1.wr W2
  have fc4 := Fe.other W2 (Or.inr (slot_ne (Or.inl (w57 hw)) (Or.inl (w54 hw)) (by decide) (t := (.array (.object "java/lang/Object"))) (t' := .int) (by decide) (by decide)))
  have N2 := Fr.snoc X2 (Fr.nil n0) Ga1
  have O2 := O0.wr W2 Ga1
  have K2 := K0.wr W2 (Or.inl (List.mem_of_getElem? (i := 0) rfl))
  show Gl p e below _ (T2.setTop (mkF m 9 #[.val (.ref a1)] []))
  exact Gl.ret0 X2 hx hlk hret (hb hby d7_9) e2 (⟨rfl, N2, K2, fc4⟩) (by decide) (by decide)
theorem ef_38 (m : MethodId) (x0 : Addr) : entryFrame m #[(.ref x0)] 1 = mkF m 0 #[.val (.ref x0)] [] := by first | (simp [entryFrame, mkF, argsToLocals, Value.category, maxLocals]; done) | rfl
theorem pn_6 : plainName "java/util/ArrayList" = true := by first | (simp [plainName, overriddenIn]; done) | decide +kernel
theorem d6_0 : decode jdk_38_method_2_code 0 = .ok (.aload_n 0, 1) := by decide +kernel
theorem d6_1 : decode jdk_38_method_2_code 1 = .ok (.invokespecial 1, 3) := by decide +kernel
theorem w40 {Z : State} {a0 : Array Value} (hw : ∀ d ∈ tables_1, d.before a0 Z = true) : (Jvm.Cond.methodLink "java/util/ArrayList" (1 : Nat) ({ cls := "java/util/AbstractList", name := "<init>", desc := "()V" } : Jvm.MethodName)).before a0 Z = true := hw _ (List.mem_of_getElem? (i := 40) rfl)
theorem w41 {Z : State} {a0 : Array Value} (hw : ∀ d ∈ tables_1, d.before a0 Z = true) : (Jvm.Cond.instanceMethod ({ cls := "java/util/AbstractList", name := "<init>", desc := "()V" } : Jvm.MethodName)).before a0 Z = true := hw _ (List.mem_of_getElem? (i := 41) rfl)
theorem w44 {Z : State} {a0 : Array Value} (hw : ∀ d ∈ tables_1, d.before a0 Z = true) : (Jvm.Cond.initialized "java/util/AbstractList").before a0 Z = true := hw _ (List.mem_of_getElem? (i := 44) rfl)
theorem w45 {Z : State} {a0 : Array Value} (hw : ∀ d ∈ tables_1, d.before a0 Z = true) : (Jvm.Cond.code ({ cls := "java/util/AbstractList", name := "<init>", desc := "()V" } : Jvm.MethodName) jdk_39_method_1_code (1 : Nat) (Option.none : Option Jvm.ClassFile.FieldType)).before a0 Z = true := hw _ (List.mem_of_getElem? (i := 45) rfl)
theorem d6_4 : decode jdk_38_method_2_code 4 = .ok (.aload_n 0, 1) := by decide +kernel
theorem d6_5 : decode jdk_38_method_2_code 5 = .ok (.getstatic 39, 3) := by decide +kernel
theorem w55 {Z : State} {a0 : Array Value} (hw : ∀ d ∈ tables_1, d.before a0 Z = true) : (Jvm.Cond.fieldLink "java/util/ArrayList" (39 : Nat) "java/util/ArrayList" "DEFAULTCAPACITY_EMPTY_ELEMENTDATA" "[Ljava/lang/Object;").before a0 Z = true := hw _ (List.mem_of_getElem? (i := 55) rfl)
theorem d6_8 : decode jdk_38_method_2_code 8 = .ok (.putfield 9, 3) := by decide +kernel
theorem w56 {Z : State} {a0 : Array Value} (hw : ∀ d ∈ tables_1, d.before a0 Z = true) : (Jvm.Cond.fieldLink "java/util/ArrayList" (9 : Nat) "java/util/ArrayList" "elementData" "[Ljava/lang/Object;").before a0 Z = true := hw _ (List.mem_of_getElem? (i := 56) rfl)
theorem d6_11 : decode jdk_38_method_2_code 11 = .ok (.return_, 1) := by decide +kernel
set_option maxRecDepth 65536 in
set_option maxHeartbeats 40000000 in
theorem rmA1 (l : Launch) (Z : State) (a0 : Array Value) (hw : ∀ d ∈ tables_1, d.before a0 Z = true) (h0 : Heap) (a1 ad : Addr) (n0 : Nat) (Sd : Sta Z Z.heap "java/util/ArrayList" "DEFAULTCAPACITY_EMPTY_ELEMENTDATA" "[Ljava/lang/Object;" (.ref ad)) (E1 : Exa Z h0 a1 "java/util/ArrayList") (Fm : Fld Z h0 a1 "java/util/AbstractList" "modCount" "I" (.int 0)) (Fe : Fld Z h0 a1 "java/util/ArrayList" "elementData" "[Ljava/lang/Object;" .null) (Ga1 : n0 ≤ a1) (O0 : Old Z n0 h0) : Con l Z (⟨"java/util/ArrayList", "<init>", "()V"⟩ : MethodName) jdk_38_method_2_code 1 none [] ({ frames := 3, cells := 0, slots := 0, locals := 36 } : Room) 0 0 #[(.ref a1)] h0 (fun v h L => v = none ∧ Fr n0 L ∧ Keep h0 h [a1]) := by
  refine Con.intro (plainFor_of_name pn_6) ?_
  intro p e s m below meth c s₁ X0 hx hby hml hZ hown hnm hret hlk e0 hs0
  refine Gl.of (fun _ kq_ => castTop (ef_38 m a1) kq_) ?_
  have K0 := Keep.refl h0 [a1]
  show Gl p e below _ (s₁.setTop (mkF m 0 #[.val (.ref a1)] []))
  refine Gl.of (fun _ kq_ => XS.aloadN X0.here hx rfl (hb hby d6_0) rfl rfl kq_) ?_
  show Gl p e below _ (s₁.setTop (mkF m 1 #[.val (.ref a1)] [(.ref a1)]))
  refine Gl.callI X0 hx hZ (y := (⟨"java/util/AbstractList", "<init>", "()V"⟩ : MethodName)) rfl hown (w40 hw) (w41 hw) (w44 hw) (w45 hw) (desc_ne (by decide)) (rm := { frames := 2, cells := 0, slots := 0, locals := 24 }) (b := a1) (argsL := []) (rest := []) (rmA2 l Z a0 hw _ a1 n0 E1 Fm Fe Ga1 O0) 0 (by decide) (by decide) (by decide) (by decide) e0 (pc := 1) (Ls := #[.val (.ref a1)]) (st := [(.ref a1)]) (by rw [hml]; rfl) pd_13 rfl rfl (Nat.le_of_eq rfl) (hb hby d6_1) ?_
  intro v1 T1 L1 X1 hQ1
  obtain ⟨rfl, Nq1, Kq1, Fq1⟩ := hQ1
  have N1 := Fr.app (Fr.nil n0) Nq1
  have ec2 := E1.keep Kq1
  have O1 := O0.keep Kq1 (allS Ga1 all0)
  have K1 := K0.trans Kq1 (by intro x hx'; cases List.mem_singleton.mp hx'; exact Or.inl (List.mem_of_getElem? (i := 0) rfl))
  show Gl p e below _ (T1.setTop (mkF m 4 #[.val (.ref a1)] []))
  refine Gl.of (fun _ kq_ => XS.aloadN X1.here hx rfl (hb hby d6_4) rfl rfl kq_) ?_
  show Gl p e below _ (T1.setTop (mkF m 5 #[.val (.ref a1)] [(.ref a1)]))
  obtain ⟨T3, X3, e3, st3⟩ := getS2 X1 hx hZ hown (host := "") (Or.inl (w55 hw)) Via.refl rfl (Sd.ext O1.2) (g := (mkF m 5 #[.val (.ref a1)] [(.ref a1)])) rfl (hb hby d6_5)
  refine Gl.of st3 ?_
  show Gl p e below _ (T3.setTop (mkF m 8 #[.val (.ref a1)] [(.ref ad), (.ref a1)]))
  obtain ⟨T4, h4, X4, e4, W4, st4⟩ := putF X3 hx hZ hown (host := "") (Or.inl (w56 hw)) Via.refl e3 Fq1 ec2 (Or.inl (w57 hw)) (w35 hw) (ty := (.array (.object "java/lang/Object"))) (by decide) rfl rfl (g := (mkF m 8 #[.val (.ref a1)] [(.ref ad), (.ref a1)])) rfl rfl (hb hby d6_8)
  refine Gl.of st4 ?_
  have F4 : Fld Z h4 a1 "java/util/ArrayList" "elementData" "[Ljava/lang/Object;" (.ref ad) := Fq1.same W4
  have ec5 := ec2.wr W4
  have N4 := Fr.snoc X4 N1 Ga1
  have O4 := O1.wr W4 Ga1
  have K4 := K1.wr W4 (Or.inl (List.mem_of_getElem? (i := 0) rfl))
  show Gl p e below _ (T4.setTop (mkF m 11 #[.val (.ref a1)] []))
  exact Gl.ret0 X4 hx hlk hret (hb hby d6_11) e4 (⟨rfl, N4, K4⟩) (by decide) (by decide)
theorem ef_39 (m : MethodId) (x0 : Addr) (x1 : Value) (hx1 : x1.isRef = true) : entryFrame m #[(.ref x0), x1] 2 = mkF m 0 #[.val (.ref x0), .val x1] [] := by rcases ref_cases hx1 with rfl | ⟨_, rfl⟩ <;> (first | (simp [entryFrame, mkF, argsToLocals, Value.category, maxLocals]; done) | rfl)
theorem pn_7 : plainName "com/example/pathstone/pathstone/Tree$Node" = true := by first | (simp [plainName, overriddenIn]; done) | decide +kernel
theorem d5_0 : decode prog_30_method_1_code 0 = .ok (.aload_n 0, 1) := by decide +kernel
theorem d5_1 : decode prog_30_method_1_code 1 = .ok (.invokespecial 1, 3) := by decide +kernel
theorem w33 {Z : State} {a0 : Array Value} (hw : ∀ d ∈ tables_1, d.before a0 Z = true) : (Jvm.Cond.methodLink "com/example/pathstone/pathstone/Tree$Node" (1 : Nat) ({ cls := "java/lang/Object", name := "<init>", desc := "()V" } : Jvm.MethodName)).before a0 Z = true := hw _ (List.mem_of_getElem? (i := 33) rfl)
theorem d5_4 : decode prog_30_method_1_code 4 = .ok (.aload_n 0, 1) := by decide +kernel
theorem d5_5 : decode prog_30_method_1_code 5 = .ok (.new 7, 3) := by decide +kernel
theorem w34 {Z : State} {a0 : Array Value} (hw : ∀ d ∈ tables_1, d.before a0 Z = true) : (Jvm.Cond.classLink "com/example/pathstone/pathstone/Tree$Node" (7 : Nat) "java/util/ArrayList").before a0 Z = true := hw _ (List.mem_of_getElem? (i := 34) rfl)
theorem w36 {Z : State} {a0 : Array Value} (hw : ∀ d ∈ tables_1, d.before a0 Z = true) : (Jvm.Cond.initialized "java/util/ArrayList").before a0 Z = true := hw _ (List.mem_of_getElem? (i := 36) rfl)
theorem d5_8 : decode prog_30_method_1_code 8 = .ok (.dup, 1) := by decide +kernel
theorem d5_9 : decode prog_30_method_1_code 9 = .ok (.invokespecial 9, 3) := by decide +kernel
theorem w37 {Z : State} {a0 : Array Value} (hw : ∀ d ∈ tables_1, d.before a0 Z = true) : (Jvm.Cond.methodLink "com/example/pathstone/pathstone/Tree$Node" (9 : Nat) ({ cls := "java/util/ArrayList", name := "<init>", desc := "()V" } : Jvm.MethodName)).before a0 Z = true := hw _ (List.mem_of_getElem? (i := 37) rfl)
theorem w38 {Z : State} {a0 : Array Value} (hw : ∀ d ∈ tables_1, d.before a0 Z = true) : (Jvm.Cond.instanceMethod ({ cls := "java/util/ArrayList", name := "<init>", desc := "()V" } : Jvm.MethodName)).before a0 Z = true := hw _ (List.mem_of_getElem? (i := 38) rfl)
theorem w39 {Z : State} {a0 : Array Value} (hw : ∀ d ∈ tables_1, d.before a0 Z = true) : (Jvm.Cond.code ({ cls := "java/util/ArrayList", name := "<init>", desc := "()V" } : Jvm.MethodName) jdk_38_method_2_code (1 : Nat) (Option.none : Option Jvm.ClassFile.FieldType)).before a0 Z = true := hw _ (List.mem_of_getElem? (i := 39) rfl)
theorem d5_12 : decode prog_30_method_1_code 12 = .ok (.putfield 10, 3) := by decide +kernel
theorem w58 {Z : State} {a0 : Array Value} (hw : ∀ d ∈ tables_1, d.before a0 Z = true) : (Jvm.Cond.fieldLink "com/example/pathstone/pathstone/Tree$Node" (10 : Nat) "com/example/pathstone/pathstone/Tree$Node" "children" "Ljava/util/List;").before a0 Z = true := hw _ (List.mem_of_getElem? (i := 58) rfl)
theorem w59 {Z : State} {a0 : Array Value} (hw : ∀ d ∈ tables_1, d.before a0 Z = true) : (Jvm.Cond.laysFinal "com/example/pathstone/pathstone/Tree$Node" "com/example/pathstone/pathstone/Tree$Node" "children" "Ljava/util/List;").before a0 Z = true := hw _ (List.mem_of_getElem? (i := 59) rfl)
theorem w28 {Z : State} {a0 : Array Value} (hw : ∀ d ∈ tables_1, d.before a0 Z = true) : (Jvm.Cond.instantiable "com/example/pathstone/pathstone/Tree$Node" (4 : Nat)).before a0 Z = true := hw _ (List.mem_of_getElem? (i := 28) rfl)
theorem w62 {Z : State} {a0 : Array Value} (hw : ∀ d ∈ tables_1, d.before a0 Z = true) : (Jvm.Cond.lays "com/example/pathstone/pathstone/Tree$Node" "com/example/pathstone/pathstone/Tree$Node" "length" "D").before a0 Z = true := hw _ (List.mem_of_getElem? (i := 62) rfl)
theorem w64 {Z : State} {a0 : Array Value} (hw : ∀ d ∈ tables_1, d.before a0 Z = true) : (Jvm.Cond.laysFinal "com/example/pathstone/pathstone/Tree$Node" "com/example/pathstone/pathstone/Tree$Node" "name" "Ljava/lang/String;").before a0 Z = true := hw _ (List.mem_of_getElem? (i := 64) rfl)
theorem d5_15 : decode prog_30_method_1_code 15 = .ok (.aload_n 0, 1) := by decide +kernel
theorem d5_16 : decode prog_30_method_1_code 16 = .ok (.ldc2_w 18, 3) := by decide +kernel
theorem w60 {Z : State} {a0 : Array Value} (hw : ∀ d ∈ tables_1, d.before a0 Z = true) : (Jvm.Cond.constantDouble "com/example/pathstone/pathstone/Tree$Node" (18 : Nat) (9221120237041090560 : UInt64)).before a0 Z = true := hw _ (List.mem_of_getElem? (i := 60) rfl)
theorem d5_19 : decode prog_30_method_1_code 19 = .ok (.putfield 20, 3) := by decide +kernel
theorem w61 {Z : State} {a0 : Array Value} (hw : ∀ d ∈ tables_1, d.before a0 Z = true) : (Jvm.Cond.fieldLink "com/example/pathstone/pathstone/Tree$Node" (20 : Nat) "com/example/pathstone/pathstone/Tree$Node" "length" "D").before a0 Z = true := hw _ (List.mem_of_getElem? (i := 61) rfl)
theorem d5_22 : decode prog_30_method_1_code 22 = .ok (.aload_n 0, 1) := by decide +kernel
theorem d5_23 : decode prog_30_method_1_code 23 = .ok (.aload_n 1, 1) := by decide +kernel
theorem d5_24 : decode prog_30_method_1_code 24 = .ok (.putfield 24, 3) := by decide +kernel
theorem w63 {Z : State} {a0 : Array Value} (hw : ∀ d ∈ tables_1, d.before a0 Z = true) : (Jvm.Cond.fieldLink "com/example/pathstone/pathstone/Tree$Node" (24 : Nat) "com/example/pathstone/pathstone/Tree$Node" "name" "Ljava/lang/String;").before a0 Z = true := hw _ (List.mem_of_getElem? (i := 63) rfl)
theorem d5_27 : decode prog_30_method_1_code 27 = .ok (.return_, 1) := by decide +kernel
set_option maxRecDepth 65536 in
set_option maxHeartbeats 40000000 in
theorem rmN (l : Launch) (Z : State) (a0 : Array Value) (hw : ∀ d ∈ tables_1, d.before a0 Z = true) (h0 : Heap) (a1 ad : Addr) (w1 : Value) (n0 : Nat) (rw1 : w1.isRef = true) (Sd : Sta Z Z.heap "java/util/ArrayList" "DEFAULTCAPACITY_EMPTY_ELEMENTDATA" "[Ljava/lang/Object;" (.ref ad)) (E1 : Exa Z h0 a1 "com/example/pathstone/pathstone/Tree$Node") (I_children : Fld Z h0 a1 "com/example/pathstone/pathstone/Tree$Node" "children" "Ljava/util/List;" .null) (I_length : Fld Z h0 a1 "com/example/pathstone/pathstone/Tree$Node" "length" "D" (.double 0)) (I_name : Fld Z h0 a1 "com/example/pathstone/pathstone/Tree$Node" "name" "Ljava/lang/String;" .null) (Ga1 : n0 ≤ a1) (O0 : Old Z n0 h0) : Con l Z (⟨"com/example/pathstone/pathstone/Tree$Node", "<init>", "(Ljava/lang/String;)V"⟩ : MethodName) prog_30_method_1_code 2 none [] ({ frames := 4, cells := 1, slots := 3, locals := 50 } : Room) 1 3 #[(.ref a1), w1] h0 (fun v h L => v = none ∧ Fr n0 L ∧ Keep h0 h [a1] ∧ Fld Z h a1 "com/example/pathstone/pathstone/Tree$Node" "name" "Ljava/lang/String;" w1) := by
  refine Con.intro (plainFor_of_name pn_7) ?_
  intro p e s m below meth c s₁ X0 hx hby hml hZ hown hnm hret hlk e0 hs0
  refine Gl.of (fun _ kq_ => castTop (ef_39 m a1 w1 rw1) kq_) ?_
  have K0 := Keep.refl h0 [a1]
  show Gl p e below _ (s₁.setTop (mkF m 0 #[.val (.ref a1), .val w1] []))
  refine Gl.of (fun _ kq_ => XS.aloadN X0.here hx rfl (hb hby d5_0) rfl rfl kq_) ?_
  show Gl p e below _ (s₁.setTop (mkF m 1 #[.val (.ref a1), .val w1] [(.ref a1)]))
  obtain ⟨T1, X1, e1, st1⟩ := initO X0 hx hZ hown (w33 hw) (w17 hw) (w18 hw) e0 (g := (mkF m 1 #[.val (.ref a1), .val w1] [(.ref a1)])) rfl (by rw [hml]; rfl) rfl (hb hby d5_1) (by decide) (W := 0) (by show 2 * 0 + _ ≤ _; exact Nat.le_of_eq rfl) (by decide)
  refine Gl.of st1 ?_
  show Gl p e below _ (T1.setTop (mkF m 4 #[.val (.ref a1), .val w1] []))
  refine Gl.of (fun _ kq_ => XS.aloadN X1.here hx rfl (hb hby d5_4) rfl rfl kq_) ?_
  show Gl p e below _ (T1.setTop (mkF m 5 #[.val (.ref a1), .val w1] [(.ref a1)]))
  obtain ⟨T2, h2, X2, e2, E2, A2, D2, -, st2⟩ := newO X1 hx hZ hown (w34 hw) (w35 hw) (w36 hw) e1 (g := (mkF m 5 #[.val (.ref a1), .val w1] [(.ref a1)])) rfl (hb hby d5_5) (by decide) (by decide)
  obtain ⟨b2, g2⟩ : ∃ z, z = h0.size := ⟨_, rfl⟩
  rw [← g2] at A2 D2 st2
  refine Gl.of st2 ?_
  have Gb2 : n0 ≤ b2 := Nat.le_trans (O0.1 ▸ O0.2.1) (Nat.le_of_eq g2.symm)
  have Jb2 : h0.size ≤ b2 := Nat.le_trans K0.1 (Nat.le_of_eq g2.symm)
  have ne_a1_b2 : a1 ≠ b2 := Nat.ne_of_lt (Nat.lt_of_lt_of_le E1.lt (Nat.le_of_eq g2.symm))
  have ec3 := E1.ext E2
  have fc4 := I_children.ext E2
  have fc5 := I_length.ext E2
  have fc6 := I_name.ext E2
  have O2 := O0.ext E2
  have K2 := K0.ext E2
  have F2_modCount : Fld Z h2 b2 "java/util/AbstractList" "modCount" "I" (.int (0 : Int32)) := D2 (Or.inl (w54 hw)) (ty := .int) (by decide)
  have F2_elementData : Fld Z h2 b2 "java/util/ArrayList" "elementData" "[Ljava/lang/Object;" .null := D2 (Or.inl (w57 hw)) (ty := (.array (.object "java/lang/Object"))) (by decide)
  show Gl p e below _ (T2.setTop (mkF m 8 #[.val (.ref a1), .val w1] [(.ref b2), (.ref a1)]))
  refine Gl.of (fun _ kq_ => XS.dup X2.here hx rfl (hb hby d5_8) rfl rfl kq_) ?_
  show Gl p e below _ (T2.setTop (mkF m 9 #[.val (.ref a1), .val w1] [(.ref b2), (.ref b2), (.ref a1)]))
  refine Gl.callI X2 hx hZ (y := (⟨"java/util/ArrayList", "<init>", "()V"⟩ : MethodName)) rfl hown (w37 hw) (w38 hw) (w36 hw) (w39 hw) (desc_ne (by decide)) (rm := { frames := 3, cells := 0, slots := 0, locals := 36 }) (b := b2) (argsL := []) (rest := [(.ref b2), (.ref a1)]) (rmA1 l Z a0 hw _ b2 ad n0 Sd A2 F2_modCount F2_elementData Gb2 O2) 2 (by decide) (by decide) (by decide) (by decide) e2 (pc := 9) (Ls := #[.val (.ref a1), .val w1]) (st := [(.ref b2), (.ref b2), (.ref a1)]) (by rw [hml]; rfl) pd_13 rfl rfl (Nat.le_of_eq rfl) (hb hby d5_9) ?_
  intro v7 T7 L7 X7 hQ7
  obtain ⟨rfl, Nq7, Kq7⟩ := hQ7
  have N7 := Fr.app (Fr.nil n0) Nq7
  have ec8 := ec3.keep Kq7
  have fc9 := fc4.keep Kq7 (fun q => ne_a1_b2 (List.mem_singleton.mp q))
  have fc10 := fc5.keep Kq7 (fun q => ne_a1_b2 (List.mem_singleton.mp q))
  have fc11 := fc6.keep Kq7 (fun q => ne_a1_b2 (List.mem_singleton.mp q))
  have ec12 := A2.keep Kq7
  have O7 := O2.keep Kq7 (allS Gb2 all0)
  have K7 := K2.trans Kq7 (by intro x hx'; cases List.mem_singleton.mp hx'; exact Or.inr Jb2)
  show Gl p e below _ (T7.setTop (mkF m 12 #[.val (.ref a1), .val w1] [(.ref b2), (.ref a1)]))
  obtain ⟨T13, h13, X13, e13, W13, st13⟩ := putF X7 hx hZ hown (host := "") (Or.inl (w58 hw)) Via.refl rfl fc9 ec8 (Or.inr ⟨(w59 hw), rfl, hnm⟩) (w28 hw) (ty := (.object "java/util/List")) (by decide) rfl rfl (g := (mkF m 12 #[.val (.ref a1), .val w1] [(.ref b2), (.ref a1)])) rfl rfl (hb hby d5_12)
  refine Gl.of st13 ?_
  have F13 : Fld Z h13 a1 "com/example/pathstone/pathstone/Tree$Node" "children" "Ljava/util/List;" (.ref b2) := fc9.same W13
  have ec14 := ec8.wr W13
  have fc15 := fc10.other W13 (Or.inr (slot_ne (Or.inl (w62 hw)) (Or.inr (w59 hw)) (by decide) (t := .double) (t' := (.object "java/util/List")) (by decide) (by decide)))
  have fc16 := fc11.other W13 (Or.inr (slot_ne (Or.inr (w64 hw)) (Or.inr (w59 hw)) (by decide) (t := (.object "java/lang/String")) (t' := (.object "java/util/List")) (by decide) (by decide)))
  have ec17 := ec12.wr W13
  have N13 := Fr.snoc X13 N7 Ga1
  have O13 := O7.wr W13 Ga1
  have K13 := K7.wr W13 (Or.inl (List.mem_of_getElem? (i := 0) rfl))
  show Gl p e below _ (T13.setTop (mkF m 15 #[.val (.ref a1), .val w1] []))
  refine Gl.of (fun _ kq_ => XS.aloadN X13.here hx rfl (hb hby d5_15) rfl rfl kq_) ?_
  show Gl p e below _ (T13.setTop (mkF m 16 #[.val (.ref a1), .val w1] [(.ref a1)]))
  refine Gl.of (fun _ kq_ => X13.ldc2DoubleC hx hown (mvT hZ (w60 hw)) (g := (mkF m 16 #[.val (.ref a1), .val w1] [(.ref a1)])) rfl (hb hby d5_16) _ kq_) ?_
  show Gl p e below _ (T13.setTop (mkF m 19 #[.val (.ref a1), .val w1] [(.double (9221120237041090560 : UInt64)), (.ref a1)]))
  obtain ⟨T18, h18, X18, e18, W18, st18⟩ := putF X13 hx hZ hown (host := "") (Or.inl (w61 hw)) Via.refl e13 fc15 ec14 (Or.inl (w62 hw)) (w28 hw) (ty := .double) (by decide) rfl rfl (g := (mkF m 19 #[.val (.ref a1), .val w1] [(.double (9221120237041090560 : UInt64)), (.ref a1)])) rfl rfl (hb hby d5_19)
  refine Gl.of st18 ?_
  have F18 : Fld Z h18 a1 "com/example/pathstone/pathstone/Tree$Node" "length" "D" (.double (9221120237041090560 : UInt64)) := fc15.same W18
  have ec19 := ec14.wr W18
  have fc20 := fc16.other W18 (Or.inr (slot_ne (Or.inr (w64 hw)) (Or.inl (w62 hw)) (by decide) (t := (.object "java/lang/String")) (t' := .double) (by decide) (by decide)))
  have ec21 := ec17.wr W18
  have fc22 := F13.other W18 (Or.inr (slot_ne (Or.inr (w59 hw)) (Or.inl (w62 hw)) (by decide) (t := (.object "java/util/List")) (t' := .double) (by decide) (by decide)))
  have N18 := Fr.snoc X18 N13 Ga1
  have O18 := O13.wr W18 Ga1
  have K18 := K13.wr W18 (Or.inl (List.mem_of_getElem? (i := 0) rfl))
  show Gl p e below _ (T18.setTop (mkF m 22 #[.val (.ref a1), .val w1] []))
  refine Gl.of (fun _ kq_ => XS.aloadN X18.here hx rfl (hb hby d5_22) rfl rfl kq_) ?_
  show Gl p e below _ (T18.setTop (mkF m 23 #[.val (.ref a1), .val w1] [(.ref a1)]))
  refine Gl.of (fun _ kq_ => XS.aloadN X18.here hx rfl (hb hby d5_23) rfl rw1 kq_) ?_
  show Gl p e below _ (T18.setTop (mkF m 24 #[.val (.ref a1), .val w1] [w1, (.ref a1)]))
  obtain ⟨T23, h23, X23, e23, W23, st23⟩ := putF X18 hx hZ hown (host := "") (Or.inl (w63 hw)) Via.refl e18 fc20 ec19 (Or.inr ⟨(w64 hw), rfl, hnm⟩) (w28 hw) (ty := (.object "java/lang/String")) (by decide) (ref_nar rw1) (ref_fit rw1) (g := (mkF m 24 #[.val (.ref a1), .val w1] [w1, (.ref a1)])) rfl rfl (hb hby d5_24)
  refine Gl.of st23 ?_
  have F23 : Fld Z h23 a1 "com/example/pathstone/pathstone/Tree$Node" "name" "Ljava/lang/String;" w1 := fc20.same W23
  have ec24 := ec19.wr W23
  have ec25 := ec21.wr W23
  have fc26 := fc22.other W23 (Or.inr (slot_ne (Or.inr (w59 hw)) (Or.inr (w64 hw)) (by decide) (t := (.object "java/util/List")) (t' := (.object "java/lang/String")) (by decide) (by decide)))
  have fc27 := F18.other W23 (Or.inr (slot_ne (Or.inl (w62 hw)) (Or.inr (w64 hw)) (by decide) (t := .double) (t' := (.object "java/lang/String")) (by decide) (by decide)))
  have N23 := Fr.snoc X23 N18 Ga1
  have O23 := O18.wr W23 Ga1
  have K23 := K18.wr W23 (Or.inl (List.mem_of_getElem? (i := 0) rfl))
  show Gl p e below _ (T23.setTop (mkF m 27 #[.val (.ref a1), .val w1] []))
  exact Gl.ret0 X23 hx hlk hret (hb hby d5_27) e23 (⟨rfl, N23, K23, F23⟩) (by decide) (by decide)
theorem ef_40 (m : MethodId) (x0 : Addr) : entryFrame m #[(.ref x0)] 1 = mkF m 0 #[.val (.ref x0)] [] := by first | (simp [entryFrame, mkF, argsToLocals, Value.category, maxLocals]; done) | rfl
theorem d10_0 : decode jdk_42_method_55_code 0 = .ok (.aload_n 0, 1) := by decide +kernel
theorem d10_1 : decode jdk_42_method_55_code 1 = .ok (.getfield 9, 3) := by decide +kernel
theorem d10_4 : decode jdk_42_method_55_code 4 = .ok (.arraylength, 1) := by decide +kernel
theorem d10_5 : decode jdk_42_method_55_code 5 = .ok (.ifCond .ne 7, 3) := by decide +kernel
theorem d10_8 : decode jdk_42_method_55_code 8 = .ok (.iconst 1, 1) := by decide +kernel
theorem d10_9 : decode jdk_42_method_55_code 9 = .ok (.goto 4, 3) := by decide +kernel
theorem d10_13 : decode jdk_42_method_55_code 13 = .ok (.ireturn, 1) := by decide +kernel
set_option maxRecDepth 65536 in
set_option maxHeartbeats 40000000 in
theorem rmY1 (l : Launch) (Z : State) (a0 : Array Value) (hw : ∀ d ∈ tables_1, d.before a0 Z = true) (h0 : Heap) (x1 t1 : Addr) (kk1 : ClassId) (z : Int32) (vs : List Value) (Fv : Fld Z h0 x1 "java/lang/String" "value" "[B" (.ref t1)) (V1 : Arv Z h0 t1 kk1 .byte z vs (.int 0)) (hz : z = (0 : Int32)) : Con l Z (⟨"java/lang/String", "isEmpty", "()Z"⟩ : MethodName) jdk_42_method_55_code 1 (some .boolean) [] ({ frames := 0, cells := 0, slots := 0, locals := 0 } : Room) 0 0 #[(.ref x1)] h0 (Pur (fun v => v = some (.int 1)) h0) := by
  refine Con.intro (plainFor_of_name pn_1) ?_
  intro p e s m below meth c s₁ X0 hx hby hml hZ hown hnm hret hlk e0 hs0
  refine Gl.of (fun _ kq_ => castTop (ef_40 m x1) kq_) ?_
  obtain ⟨zcl, zAr, zq, zS, zM, zH, zG⟩ := id V1
  show Gl p e below _ (s₁.setTop (mkF m 0 #[.val (.ref x1)] []))
  refine Gl.of (fun _ kq_ => XS.aloadN X0.here hx rfl (hb hby d10_0) rfl rfl kq_) ?_
  show Gl p e below _ (s₁.setTop (mkF m 1 #[.val (.ref x1)] [(.ref x1)]))
  obtain ⟨T1, X1, e1, st1⟩ := getF X0 hx hZ hown (host := "") (Or.inl (w25 hw)) Via.refl e0 Fv (g := (mkF m 1 #[.val (.ref x1)] [(.ref x1)])) rfl rfl (hb hby d10_1)
  refine Gl.of st1 ?_
  show Gl p e below _ (T1.setTop (mkF m 4 #[.val (.ref x1)] [(.ref t1)]))
  refine Gl.of (fun _ kq_ => X1.arraylength hx (by rw [e1]; exact (zAr).1) (State.isArrayOf_alike hZ.alike (zAr).2.1) (g := (mkF m 4 #[.val (.ref x1)] [(.ref t1)])) rfl rfl (hb hby d10_4) _ kq_) ?_
  rw [len_of zS zM]
  show Gl p e below _ (T1.setTop (mkF m 5 #[.val (.ref x1)] [(.int z)]))
  refine Gl.of (fun _ kq_ => XS.ifNo X1.here hx rfl (hb hby d10_5) rfl ((if0 _ _).trans (teq hz).2) kq_) ?_
  show Gl p e below _ (T1.setTop (mkF m 8 #[.val (.ref x1)] []))
  refine Gl.of (fun _ kq_ => XS.iconst X1.here hx rfl (hb hby d10_8) kq_) ?_
  show Gl p e below _ (T1.setTop (mkF m 9 #[.val (.ref x1)] [(.int (1 : Int32))]))
  refine Gl.of (fun _ kq_ => XS.goto X1.here hx rfl (pc0 := 9) (pc' := 13) rfl (hb hby d10_9) (by decide) (by decide) kq_) ?_
  show Gl p e below _ (T1.setTop (mkF m 13 #[.val (.ref x1)] [(.int (1 : Int32))]))
  exact Gl.retN X1 hx hlk hret (by simp) (hb hby d10_13) e1 (⟨rfl, rfl, rfl⟩) (by decide) (by decide)
theorem ef_41 (m : MethodId) (x0 : Addr) : entryFrame m #[(.ref x0)] 1 = mkF m 0 #[.val (.ref x0)] [] := by first | (simp [entryFrame, mkF, argsToLocals, Value.category, maxLocals]; done) | rfl
theorem d9_0 : decode prog_30_method_2_code 0 = .ok (.aload_n 0, 1) := by decide +kernel
theorem d9_1 : decode prog_30_method_2_code 1 = .ok (.getfield 24, 3) := by decide +kernel
theorem d9_4 : decode prog_30_method_2_code 4 = .ok (.ifnull 13, 3) := by decide +kernel
theorem d9_7 : decode prog_30_method_2_code 7 = .ok (.aload_n 0, 1) := by decide +kernel
theorem d9_8 : decode prog_30_method_2_code 8 = .ok (.getfield 24, 3) := by decide +kernel
theorem d9_11 : decode prog_30_method_2_code 11 = .ok (.invokevirtual 28, 3) := by decide +kernel
theorem pd_14 : parseMethodDescriptor "()Z" = some ⟨[], some .boolean⟩ := by decide +kernel
theorem w73 {Z : State} {a0 : Array Value} (hw : ∀ d ∈ tables_1, d.before a0 Z = true) : (Jvm.Cond.selects "java/lang/String" ({ cls := "java/lang/String", name := "isEmpty", desc := "()Z" } : Jvm.MethodName) ({ cls := "java/lang/String", name := "isEmpty", desc := "()Z" } : Jvm.MethodName)).before a0 Z = true := hw _ (List.mem_of_getElem? (i := 73) rfl)
theorem w70 {Z : State} {a0 : Array Value} (hw : ∀ d ∈ tables_1, d.before a0 Z = true) : (Jvm.Cond.methodLink "com/example/pathstone/pathstone/Tree$Node" (28 : Nat) ({ cls := "java/lang/String", name := "isEmpty", desc := "()Z" } : Jvm.MethodName)).before a0 Z = true := hw _ (List.mem_of_getElem? (i := 70) rfl)
theorem w71 {Z : State} {a0 : Array Value} (hw : ∀ d ∈ tables_1, d.before a0 Z = true) : (Jvm.Cond.declares ({ cls := "java/lang/String", name := "isEmpty", desc := "()Z" } : Jvm.MethodName)).before a0 Z = true := hw _ (List.mem_of_getElem? (i := 71) rfl)
theorem w72 {Z : State} {a0 : Array Value} (hw : ∀ d ∈ tables_1, d.before a0 Z = true) : (Jvm.Cond.instanceMethod ({ cls := "java/lang/String", name := "isEmpty", desc := "()Z" } : Jvm.MethodName)).before a0 Z = true := hw _ (List.mem_of_getElem? (i := 72) rfl)
theorem w74 {Z : State} {a0 : Array Value} (hw : ∀ d ∈ tables_1, d.before a0 Z = true) : (Jvm.Cond.code ({ cls := "java/lang/String", name := "isEmpty", desc := "()Z" } : Jvm.MethodName) jdk_42_method_55_code (1 : Nat) (Option.some Jvm.ClassFile.FieldType.boolean)).before a0 Z = true := hw _ (List.mem_of_getElem? (i := 74) rfl)
theorem d9_14 : decode prog_30_method_2_code 14 = .ok (.ifCond .eq 7, 3) := by decide +kernel
theorem d9_17 : decode prog_30_method_2_code 17 = .ok (.iconst 1, 1) := by decide +kernel
theorem d9_18 : decode prog_30_method_2_code 18 = .ok (.goto 4, 3) := by decide +kernel
theorem d9_22 : decode prog_30_method_2_code 22 = .ok (.ireturn, 1) := by decide +kernel
set_option maxRecDepth 65536 in
set_option maxHeartbeats 40000000 in
theorem rmU1 (l : Launch) (Z : State) (a0 : Array Value) (hw : ∀ d ∈ tables_1, d.before a0 Z = true) (h0 : Heap) (a1 : Addr) (x1 t1 : Addr) (kk1 : ClassId) (z : Int32) (vs : List Value) (Fn : Fld Z h0 a1 "com/example/pathstone/pathstone/Tree$Node" "name" "Ljava/lang/String;" (.ref x1)) (Ex : Exa Z h0 x1 "java/lang/String") (Fv : Fld Z h0 x1 "java/lang/String" "value" "[B" (.ref t1)) (V1 : Arv Z h0 t1 kk1 .byte z vs (.int 0)) (hz : z = (0 : Int32)) : Con l Z (⟨"com/example/pathstone/pathstone/Tree$Node", "isUnnamed", "()Z"⟩ : MethodName) prog_30_method_2_code 1 (some .boolean) [] ({ frames := 1, cells := 0, slots := 0, locals := 12 } : Room) 0 0 #[(.ref a1)] h0 (Pur (fun v => v = some (.int 1)) h0) := by
  refine Con.intro (plainFor_of_name pn_7) ?_
  intro p e s m below meth c s₁ X0 hx hby hml hZ hown hnm hret hlk e0 hs0
  refine Gl.of (fun _ kq_ => castTop (ef_41 m a1) kq_) ?_
  show Gl p e below _ (s₁.setTop (mkF m 0 #[.val (.ref a1)] []))
  refine Gl.of (fun _ kq_ => XS.aloadN X0.here hx rfl (hb hby d9_0) rfl rfl kq_) ?_
  show Gl p e below _ (s₁.setTop (mkF m 1 #[.val (.ref a1)] [(.ref a1)]))
  obtain ⟨T1, X1, e1, st1⟩ := getF X0 hx hZ hown (host := "") (Or.inl (w63 hw)) Via.refl e0 Fn (g := (mkF m 1 #[.val (.ref a1)] [(.ref a1)])) rfl rfl (hb hby d9_1)
  refine Gl.of st1 ?_
  show Gl p e below _ (T1.setTop (mkF m 4 #[.val (.ref a1)] [(.ref x1)]))
  refine Gl.of (fun _ kq_ => XS.ifnullNo X1.here hx rfl (hb hby d9_4) rfl kq_) ?_
  show Gl p e below _ (T1.setTop (mkF m 7 #[.val (.ref a1)] []))
  refine Gl.of (fun _ kq_ => XS.aloadN X1.here hx rfl (hb hby d9_7) rfl rfl kq_) ?_
  show Gl p e below _ (T1.setTop (mkF m 8 #[.val (.ref a1)] [(.ref a1)]))
  obtain ⟨T2, X2, e2, st2⟩ := getF X1 hx hZ hown (host := "") (Or.inl (w63 hw)) Via.refl e1 Fn (g := (mkF m 8 #[.val (.ref a1)] [(.ref a1)])) rfl rfl (hb hby d9_8)
  refine Gl.of st2 ?_
  show Gl p e below _ (T2.setTop (mkF m 11 #[.val (.ref a1)] [(.ref x1)]))
  refine Gl.callV0 X2 hx hZ (y := (⟨"java/lang/String", "isEmpty", "()Z"⟩ : MethodName)) (z := (⟨"java/lang/String", "isEmpty", "()Z"⟩ : MethodName)) hown (w70 hw) (w71 hw) (notFace_of_selects (args := #[]) (mvT hZ (w73 hw))) (w73 hw) (w72 hw) (w74 hw) (w7 hw) (desc_ne (by decide)) (b := x1) (argsL := []) (rest := []) Ex (rmY1 l Z a0 hw _ x1 t1 kk1 z vs Fv V1 hz) 0 (by decide) (by decide) e2 (pc := 11) (Ls := #[.val (.ref a1)]) (st := [(.ref x1)]) (by rw [hml]; rfl) pd_14 rfl rfl (Nat.le_of_eq rfl) (hb hby d9_11) (by decide) (by decide) ?_
  intro v3 T3 X3 e3 hv3
  subst hv3
  show Gl p e below _ (T3.setTop (mkF m 14 #[.val (.ref a1)] [(.int (1 : Int32))]))
  refine Gl.of (fun _ kq_ => XS.ifNo X3.here hx rfl (hb hby d9_14) rfl ((if0 _ _).trans (feq (by decide : ¬ ((1 : Int32) = (0 : Int32)))).1) kq_) ?_
  show Gl p e below _ (T3.setTop (mkF m 17 #[.val (.ref a1)] []))
  refine Gl.of (fun _ kq_ => XS.iconst X3.here hx rfl (hb hby d9_17) kq_) ?_
  show Gl p e below _ (T3.setTop (mkF m 18 #[.val (.ref a1)] [(.int (1 : Int32))]))
  refine Gl.of (fun _ kq_ => XS.goto X3.here hx rfl (pc0 := 18) (pc' := 22) rfl (hb hby d9_18) (by decide) (by decide) kq_) ?_
  show Gl p e below _ (T3.setTop (mkF m 22 #[.val (.ref a1)] [(.int (1 : Int32))]))
  exact Gl.retN X3 hx hlk hret (by simp) (hb hby d9_22) e3 (⟨rfl, rfl, rfl⟩) (by decide) (by decide)
theorem ef_42 (m : MethodId) (x0 : Addr) : entryFrame m #[(.ref x0)] 1 = mkF m 0 #[.val (.ref x0)] [] := by first | (simp [entryFrame, mkF, argsToLocals, Value.category, maxLocals]; done) | rfl
theorem d10_12 : decode jdk_42_method_55_code 12 = .ok (.iconst 0, 1) := by decide +kernel
set_option maxRecDepth 65536 in
set_option maxHeartbeats 40000000 in
theorem rmY0 (l : Launch) (Z : State) (a0 : Array Value) (hw : ∀ d ∈ tables_1, d.before a0 Z = true) (h0 : Heap) (x1 t1 : Addr) (kk1 : ClassId) (z : Int32) (vs : List Value) (Fv : Fld Z h0 x1 "java/lang/String" "value" "[B" (.ref t1)) (V1 : Arv Z h0 t1 kk1 .byte z vs (.int 0)) (hz : ¬ z = (0 : Int32)) : Con l Z (⟨"java/lang/String", "isEmpty", "()Z"⟩ : MethodName) jdk_42_method_55_code 1 (some .boolean) [] ({ frames := 0, cells := 0, slots := 0, locals := 0 } : Room) 0 0 #[(.ref x1)] h0 (Pur (fun v => v = some (.int 0)) h0) := by
  refine Con.intro (plainFor_of_name pn_1) ?_
  intro p e s m below meth c s₁ X0 hx hby hml hZ hown hnm hret hlk e0 hs0
  refine Gl.of (fun _ kq_ => castTop (ef_42 m x1) kq_) ?_
  obtain ⟨zcl, zAr, zq, zS, zM, zH, zG⟩ := id V1
  show Gl p e below _ (s₁.setTop (mkF m 0 #[.val (.ref x1)] []))
  refine Gl.of (fun _ kq_ => XS.aloadN X0.here hx rfl (hb hby d10_0) rfl rfl kq_) ?_
  show Gl p e below _ (s₁.setTop (mkF m 1 #[.val (.ref x1)] [(.ref x1)]))
  obtain ⟨T1, X1, e1, st1⟩ := getF X0 hx hZ hown (host := "") (Or.inl (w25 hw)) Via.refl e0 Fv (g := (mkF m 1 #[.val (.ref x1)] [(.ref x1)])) rfl rfl (hb hby d10_1)
  refine Gl.of st1 ?_
  show Gl p e below _ (T1.setTop (mkF m 4 #[.val (.ref x1)] [(.ref t1)]))
  refine Gl.of (fun _ kq_ => X1.arraylength hx (by rw [e1]; exact (zAr).1) (State.isArrayOf_alike hZ.alike (zAr).2.1) (g := (mkF m 4 #[.val (.ref x1)] [(.ref t1)])) rfl rfl (hb hby d10_4) _ kq_) ?_
  rw [len_of zS zM]
  show Gl p e below _ (T1.setTop (mkF m 5 #[.val (.ref x1)] [(.int z)]))
  refine Gl.of (fun _ kq_ => XS.ifYes X1.here hx rfl (pc0 := 5) (pc' := 12) rfl (hb hby d10_5) rfl ((if0 _ _).trans (feq hz).2) (by decide) (by decide) kq_) ?_
  show Gl p e below _ (T1.setTop (mkF m 12 #[.val (.ref x1)] []))
  refine Gl.of (fun _ kq_ => XS.iconst X1.here hx rfl (hb hby d10_12) kq_) ?_
  show Gl p e below _ (T1.setTop (mkF m 13 #[.val (.ref x1)] [(.int (0 : Int32))]))
  exact Gl.retN X1 hx hlk hret (by simp) (hb hby d10_13) e1 (⟨rfl, rfl, rfl⟩) (by decide) (by decide)
theorem ef_43 (m : MethodId) (x0 : Addr) : entryFrame m #[(.ref x0)] 1 = mkF m 0 #[.val (.ref x0)] [] := by first | (simp [entryFrame, mkF, argsToLocals, Value.category, maxLocals]; done) | rfl
theorem d9_21 : decode prog_30_method_2_code 21 = .ok (.iconst 0, 1) := by decide +kernel
set_option maxRecDepth 65536 in
set_option maxHeartbeats 40000000 in
theorem rmU0 (l : Launch) (Z : State) (a0 : Array Value) (hw : ∀ d ∈ tables_1, d.before a0 Z = true) (h0 : Heap) (a1 : Addr) (x1 t1 : Addr) (kk1 : ClassId) (z : Int32) (vs : List Value) (Fn : Fld Z h0 a1 "com/example/pathstone/pathstone/Tree$Node" "name" "Ljava/lang/String;" (.ref x1)) (Ex : Exa Z h0 x1 "java/lang/String") (Fv : Fld Z h0 x1 "java/lang/String" "value" "[B" (.ref t1)) (V1 : Arv Z h0 t1 kk1 .byte z vs (.int 0)) (hz : ¬ z = (0 : Int32)) : Con l Z (⟨"com/example/pathstone/pathstone/Tree$Node", "isUnnamed", "()Z"⟩ : MethodName) prog_30_method_2_code 1 (some .boolean) [] ({ frames := 1, cells := 0, slots := 0, locals := 12 } : Room) 0 0 #[(.ref a1)] h0 (Pur (fun v => v = some (.int 0)) h0) := by
  refine Con.intro (plainFor_of_name pn_7) ?_
  intro p e s m below meth c s₁ X0 hx hby hml hZ hown hnm hret hlk e0 hs0
  refine Gl.of (fun _ kq_ => castTop (ef_43 m a1) kq_) ?_
  show Gl p e below _ (s₁.setTop (mkF m 0 #[.val (.ref a1)] []))
  refine Gl.of (fun _ kq_ => XS.aloadN X0.here hx rfl (hb hby d9_0) rfl rfl kq_) ?_
  show Gl p e below _ (s₁.setTop (mkF m 1 #[.val (.ref a1)] [(.ref a1)]))
  obtain ⟨T1, X1, e1, st1⟩ := getF X0 hx hZ hown (host := "") (Or.inl (w63 hw)) Via.refl e0 Fn (g := (mkF m 1 #[.val (.ref a1)] [(.ref a1)])) rfl rfl (hb hby d9_1)
  refine Gl.of st1 ?_
  show Gl p e below _ (T1.setTop (mkF m 4 #[.val (.ref a1)] [(.ref x1)]))
  refine Gl.of (fun _ kq_ => XS.ifnullNo X1.here hx rfl (hb hby d9_4) rfl kq_) ?_
  show Gl p e below _ (T1.setTop (mkF m 7 #[.val (.ref a1)] []))
  refine Gl.of (fun _ kq_ => XS.aloadN X1.here hx rfl (hb hby d9_7) rfl rfl kq_) ?_
  show Gl p e below _ (T1.setTop (mkF m 8 #[.val (.ref a1)] [(.ref a1)]))
  obtain ⟨T2, X2, e2, st2⟩ := getF X1 hx hZ hown (host := "") (Or.inl (w63 hw)) Via.refl e1 Fn (g := (mkF m 8 #[.val (.ref a1)] [(.ref a1)])) rfl rfl (hb hby d9_8)
  refine Gl.of st2 ?_
  show Gl p e below _ (T2.setTop (mkF m 11 #[.val (.ref a1)] [(.ref x1)]))
  refine Gl.callV0 X2 hx hZ (y := (⟨"java/lang/String", "isEmpty", "()Z"⟩ : MethodName)) (z := (⟨"java/lang/String", "isEmpty", "()Z"⟩ : MethodName)) hown (w70 hw) (w71 hw) (notFace_of_selects (args := #[]) (mvT hZ (w73 hw))) (w73 hw) (w72 hw) (w74 hw) (w7 hw) (desc_ne (by decide)) (b := x1) (argsL := []) (rest := []) Ex (rmY0 l Z a0 hw _ x1 t1 kk1 z vs Fv V1 hz) 0 (by decide) (by decide) e2 (pc := 11) (Ls := #[.val (.ref a1)]) (st := [(.ref x1)]) (by rw [hml]; rfl) pd_14 rfl rfl (Nat.le_of_eq rfl) (hb hby d9_11) (by decide) (by decide) ?_
  intro v3 T3 X3 e3 hv3
  subst hv3
  show Gl p e below _ (T3.setTop (mkF m 14 #[.val (.ref a1)] [(.int (0 : Int32))]))
  refine Gl.of (fun _ kq_ => XS.ifYes X3.here hx rfl (pc0 := 14) (pc' := 21) rfl (hb hby d9_14) rfl ((if0 _ _).trans (teq (by decide : (0 : Int32) = (0 : Int32))).1) (by decide) (by decide) kq_) ?_
  show Gl p e below _ (T3.setTop (mkF m 21 #[.val (.ref a1)] []))
  refine Gl.of (fun _ kq_ => XS.iconst X3.here hx rfl (hb hby d9_21) kq_) ?_
  show Gl p e below _ (T3.setTop (mkF m 22 #[.val (.ref a1)] [(.int (0 : Int32))]))
  exact Gl.retN X3 hx hlk hret (by simp) (hb hby d9_22) e3 (⟨rfl, rfl, rfl⟩) (by decide) (by decide)
theorem ef_44 (m : MethodId) (x0 : Addr) : entryFrame m #[(.ref x0)] 1 = mkF m 0 #[.val (.ref x0)] [] := by first | (simp [entryFrame, mkF, argsToLocals, Value.category, maxLocals]; done) | rfl
set_option maxRecDepth 65536 in
set_option maxHeartbeats 40000000 in
theorem rmUn (l : Launch) (Z : State) (a0 : Array Value) (hw : ∀ d ∈ tables_1, d.before a0 Z = true) (h0 : Heap) (a1 : Addr) (Fn : Fld Z h0 a1 "com/example/pathstone/pathstone/Tree$Node" "name" "Ljava/lang/String;" .null) : Con l Z (⟨"com/example/pathstone/pathstone/Tree$Node", "isUnnamed", "()Z"⟩ : MethodName) prog_30_method_2_code 1 (some .boolean) [] ({ frames := 1, cells := 0, slots := 0, locals := 12 } : Room) 0 0 #[(.ref a1)] h0 (Pur (fun v => v = some (.int 1)) h0) := by
  refine Con.intro (plainFor_of_name pn_7) ?_
  intro p e s m below meth c s₁ X0 hx hby hml hZ hown hnm hret hlk e0 hs0
  refine Gl.of (fun _ kq_ => castTop (ef_44 m a1) kq_) ?_
  show Gl p e below _ (s₁.setTop (mkF m 0 #[.val (.ref a1)] []))
  refine Gl.of (fun _ kq_ => XS.aloadN X0.here hx rfl (hb hby d9_0) rfl rfl kq_) ?_
  show Gl p e below _ (s₁.setTop (mkF m 1 #[.val (.ref a1)] [(.ref a1)]))
  obtain ⟨T1, X1, e1, st1⟩ := getF X0 hx hZ hown (host := "") (Or.inl (w63 hw)) Via.refl e0 Fn (g := (mkF m 1 #[.val (.ref a1)] [(.ref a1)])) rfl rfl (hb hby d9_1)
  refine Gl.of st1 ?_
  show Gl p e below _ (T1.setTop (mkF m 4 #[.val (.ref a1)] [.null]))
  refine Gl.of (fun _ kq_ => XS.ifnullYes X1.here hx rfl (pc0 := 4) (pc' := 17) rfl (hb hby d9_4) rfl (by decide) (by decide) kq_) ?_
  show Gl p e below _ (T1.setTop (mkF m 17 #[.val (.ref a1)] []))
  refine Gl.of (fun _ kq_ => XS.iconst X1.here hx rfl (hb hby d9_17) kq_) ?_
  show Gl p e below _ (T1.setTop (mkF m 18 #[.val (.ref a1)] [(.int (1 : Int32))]))
  refine Gl.of (fun _ kq_ => XS.goto X1.here hx rfl (pc0 := 18) (pc' := 22) rfl (hb hby d9_18) (by decide) (by decide) kq_) ?_
  show Gl p e below _ (T1.setTop (mkF m 22 #[.val (.ref a1)] [(.int (1 : Int32))]))
  exact Gl.retN X1 hx hlk hret (by simp) (hb hby d9_22) e1 (⟨rfl, rfl, rfl⟩) (by decide) (by decide)
theorem ef_45 (m : MethodId) (x0 : Int32) (x1 : Int32) (x2 : Int32) (x3 : Int32) : entryFrame m #[(.int x0), (.int x1), (.int x2), (.int x3)] maxLocals = mkF m 0 #[.val (.int x0), .val (.int x1), .val (.int x2), .val (.int x3), .unset, .unset, .unset, .unset, .unset, .unset, .unset, .unset] [] := by first | (simp [entryFrame, mkF, argsToLocals, Value.category, maxLocals]; done) | rfl
theorem w0 {Z : State} {a0 : Array Value} (hw : ∀ d ∈ tables_1, d.before a0 Z = true) : (Jvm.Cond.constant "com/example/pathstone/pathstone/NodeIsUnnamedPinLaw" (7 : Nat) (65535 : Int32)).before a0 Z = true := hw _ (List.mem_of_getElem? (i := 0) rfl)
theorem pd_15 : parseMethodDescriptor "(ZICCC)Ljava/lang/String;" = some ⟨[.boolean, .int, .char, .char, .char], some (.object "java/lang/String")⟩ := by decide +kernel
theorem w1 {Z : State} {a0 : Array Value} (hw : ∀ d ∈ tables_1, d.before a0 Z = true) : (Jvm.Cond.methodLink "com/example/pathstone/pathstone/NodeIsUnnamedPinLaw" (8 : Nat) ({ cls := "com/example/pathstone/pathstone/NodeIsUnnamedPinLaw", name := "makeName", desc := "(ZICCC)Ljava/lang/String;" } : Jvm.MethodName)).before a0 Z = true := hw _ (List.mem_of_getElem? (i := 1) rfl)
theorem w2 {Z : State} {a0 : Array Value} (hw : ∀ d ∈ tables_1, d.before a0 Z = true) : (Jvm.Cond.static ({ cls := "com/example/pathstone/pathstone/NodeIsUnnamedPinLaw", name := "makeName", desc := "(ZICCC)Ljava/lang/String;" } : Jvm.MethodName)).before a0 Z = true := hw _ (List.mem_of_getElem? (i := 2) rfl)
theorem w3 {Z : State} {a0 : Array Value} (hw : ∀ d ∈ tables_1, d.before a0 Z = true) : (Jvm.Cond.initialized "com/example/pathstone/pathstone/NodeIsUnnamedPinLaw").before a0 Z = true := hw _ (List.mem_of_getElem? (i := 3) rfl)
theorem w4 {Z : State} {a0 : Array Value} (hw : ∀ d ∈ tables_1, d.before a0 Z = true) : (Jvm.Cond.code ({ cls := "com/example/pathstone/pathstone/NodeIsUnnamedPinLaw", name := "makeName", desc := "(ZICCC)Ljava/lang/String;" } : Jvm.MethodName) method_3_code (6 : Nat) (Option.some (Jvm.ClassFile.FieldType.object "java/lang/String"))).before a0 Z = true := hw _ (List.mem_of_getElem? (i := 4) rfl)
theorem w27 {Z : State} {a0 : Array Value} (hw : ∀ d ∈ tables_1, d.before a0 Z = true) : (Jvm.Cond.classLink "com/example/pathstone/pathstone/NodeIsUnnamedPinLaw" (14 : Nat) "com/example/pathstone/pathstone/Tree$Node").before a0 Z = true := hw _ (List.mem_of_getElem? (i := 27) rfl)
theorem w29 {Z : State} {a0 : Array Value} (hw : ∀ d ∈ tables_1, d.before a0 Z = true) : (Jvm.Cond.initialized "com/example/pathstone/pathstone/Tree$Node").before a0 Z = true := hw _ (List.mem_of_getElem? (i := 29) rfl)
theorem pd_16 : parseMethodDescriptor "(Ljava/lang/String;)V" = some ⟨[(.object "java/lang/String")], none⟩ := by decide +kernel
theorem w30 {Z : State} {a0 : Array Value} (hw : ∀ d ∈ tables_1, d.before a0 Z = true) : (Jvm.Cond.methodLink "com/example/pathstone/pathstone/NodeIsUnnamedPinLaw" (16 : Nat) ({ cls := "com/example/pathstone/pathstone/Tree$Node", name := "<init>", desc := "(Ljava/lang/String;)V" } : Jvm.MethodName)).before a0 Z = true := hw _ (List.mem_of_getElem? (i := 30) rfl)
theorem w31 {Z : State} {a0 : Array Value} (hw : ∀ d ∈ tables_1, d.before a0 Z = true) : (Jvm.Cond.instanceMethod ({ cls := "com/example/pathstone/pathstone/Tree$Node", name := "<init>", desc := "(Ljava/lang/String;)V" } : Jvm.MethodName)).before a0 Z = true := hw _ (List.mem_of_getElem? (i := 31) rfl)
theorem w32 {Z : State} {a0 : Array Value} (hw : ∀ d ∈ tables_1, d.before a0 Z = true) : (Jvm.Cond.code ({ cls := "com/example/pathstone/pathstone/Tree$Node", name := "<init>", desc := "(Ljava/lang/String;)V" } : Jvm.MethodName) prog_30_method_1_code (2 : Nat) (Option.none : Option Jvm.ClassFile.FieldType)).before a0 Z = true := hw _ (List.mem_of_getElem? (i := 32) rfl)
theorem w68 {Z : State} {a0 : Array Value} (hw : ∀ d ∈ tables_1, d.before a0 Z = true) : (Jvm.Cond.selects "com/example/pathstone/pathstone/Tree$Node" ({ cls := "com/example/pathstone/pathstone/Tree$Node", name := "isUnnamed", desc := "()Z" } : Jvm.MethodName) ({ cls := "com/example/pathstone/pathstone/Tree$Node", name := "isUnnamed", desc := "()Z" } : Jvm.MethodName)).before a0 Z = true := hw _ (List.mem_of_getElem? (i := 68) rfl)
theorem w65 {Z : State} {a0 : Array Value} (hw : ∀ d ∈ tables_1, d.before a0 Z = true) : (Jvm.Cond.methodLink "com/example/pathstone/pathstone/NodeIsUnnamedPinLaw" (19 : Nat) ({ cls := "com/example/pathstone/pathstone/Tree$Node", name := "isUnnamed", desc := "()Z" } : Jvm.MethodName)).before a0 Z = true := hw _ (List.mem_of_getElem? (i := 65) rfl)
theorem w66 {Z : State} {a0 : Array Value} (hw : ∀ d ∈ tables_1, d.before a0 Z = true) : (Jvm.Cond.declares ({ cls := "com/example/pathstone/pathstone/Tree$Node", name := "isUnnamed", desc := "()Z" } : Jvm.MethodName)).before a0 Z = true := hw _ (List.mem_of_getElem? (i := 66) rfl)
theorem w67 {Z : State} {a0 : Array Value} (hw : ∀ d ∈ tables_1, d.before a0 Z = true) : (Jvm.Cond.instanceMethod ({ cls := "com/example/pathstone/pathstone/Tree$Node", name := "isUnnamed", desc := "()Z" } : Jvm.MethodName)).before a0 Z = true := hw _ (List.mem_of_getElem? (i := 67) rfl)
theorem w69 {Z : State} {a0 : Array Value} (hw : ∀ d ∈ tables_1, d.before a0 Z = true) : (Jvm.Cond.code ({ cls := "com/example/pathstone/pathstone/Tree$Node", name := "isUnnamed", desc := "()Z" } : Jvm.MethodName) prog_30_method_2_code (1 : Nat) (Option.some Jvm.ClassFile.FieldType.boolean)).before a0 Z = true := hw _ (List.mem_of_getElem? (i := 69) rfl)
set_option maxRecDepth 65536 in
set_option maxHeartbeats 40000000 in
theorem rm0 (l : Launch) (Z : State) (a0 : Array Value) (hw : ∀ d ∈ tables_1, d.before a0 Z = true) (ws : List Jvm.Cond) (h0 : Heap) (p1 p2 p3 p4 : Int32) (cz : Int32) (ad : Addr) (n0 : Nat) (SC : Sta Z Z.heap "java/lang/String" "COMPACT_STRINGS" "Z" (.int cz)) (hcz : ¬ cz = 0) (Sa : Sta Z Z.heap "java/lang/StringUTF16" "$assertionsDisabled" "Z" (.int 1)) (Sh : Sta Z Z.heap "java/lang/StringUTF16" "HI_BYTE_SHIFT" "I" (.int 0)) (Sl : Sta Z Z.heap "java/lang/StringUTF16" "LO_BYTE_SHIFT" "I" (.int 8)) (Sd : Sta Z Z.heap "java/util/ArrayList" "DEFAULTCAPACITY_EMPTY_ELEMENTDATA" "[Ljava/lang/Object;" (.ref ad)) (O0 : Old Z n0 h0) : ConE l Z own_EL x code maxLocals ret ws room_1 24 1152 #[(.int p1), (.int p2), (.int p3), (.int p4)] h0 (fun v h L => v = some (.int 1) ∧ Fr n0 L) := by
  refine ConE.intro (plainFor_of_name pn_3) ?_
  intro p e s m below meth c s₁ X0 hx hby hml hZ hown hnm hret hlk e0 hs0 hR0
  refine Gl.of (fun _ kq_ => castTop (ef_45 m p1 p2 p3 p4) kq_) ?_
  have hS0 := (State.WarmedH.refl s).since 0
  have hk0 : 0 ≤ h0.size := Nat.zero_le _
  have K0 := Keep.refl h0 []
  show Gl p e below _ (s₁.setTop (mkF m 0 #[.val (.int p1), .val (.int p2), .val (.int p3), .val (.int p4), .unset, .unset, .unset, .unset, .unset, .unset, .unset, .unset] []))
  refine Gl.of (fun _ kq_ => XS.iloadN X0.here hx rfl (hb hby at_0) rfl kq_) ?_
  show Gl p e below _ (s₁.setTop (mkF m 1 #[.val (.int p1), .val (.int p2), .val (.int p3), .val (.int p4), .unset, .unset, .unset, .unset, .unset, .unset, .unset, .unset] [(.int p1)]))
  refine Gl.of (fun _ kq_ => XS.iconst X0.here hx rfl (hb hby at_1) kq_) ?_
  show Gl p e below _ (s₁.setTop (mkF m 2 #[.val (.int p1), .val (.int p2), .val (.int p3), .val (.int p4), .unset, .unset, .unset, .unset, .unset, .unset, .unset, .unset] [(.int (4 : Int32)), (.int p1)]))
  refine Gl.of (fun _ kq_ => XS.iand X0.here hx rfl (hb hby at_2) rfl kq_) ?_
  show Gl p e below _ (s₁.setTop (mkF m 3 #[.val (.int p1), .val (.int p2), .val (.int p3), .val (.int p4), .unset, .unset, .unset, .unset, .unset, .unset, .unset, .unset] [(.int (p1 &&& (4 : Int32)))]))
  by_cases hc3_1 : (p1 &&& (4 : Int32)) = (0 : Int32)
  · refine Gl.of (fun _ kq_ => XS.ifYes X0.here hx rfl (pc0 := 3) (pc' := 10) rfl (hb hby at_3) rfl ((if0 _ _).trans (teq hc3_1).1) (by decide) (by decide) kq_) ?_
    show Gl p e below _ (s₁.setTop (mkF m 10 #[.val (.int p1), .val (.int p2), .val (.int p3), .val (.int p4), .unset, .unset, .unset, .unset, .unset, .unset, .unset, .unset] []))
    refine Gl.of (fun _ kq_ => XS.iconst X0.here hx rfl (hb hby at_10) kq_) ?_
    show Gl p e below _ (s₁.setTop (mkF m 11 #[.val (.int p1), .val (.int p2), .val (.int p3), .val (.int p4), .unset, .unset, .unset, .unset, .unset, .unset, .unset, .unset] [(.int (0 : Int32))]))
    refine Gl.of (fun _ kq_ => XS.istore X0.here hx rfl (hb hby at_11) rfl (l' := #[.val (.int p1), .val (.int p2), .val (.int p3), .val (.int p4), .val (.int (0 : Int32)), .unset, .unset, .unset, .unset, .unset, .unset, .unset]) rfl kq_) ?_
    show Gl p e below _ (s₁.setTop (mkF m 13 #[.val (.int p1), .val (.int p2), .val (.int p3), .val (.int p4), .val (.int (0 : Int32)), .unset, .unset, .unset, .unset, .unset, .unset, .unset] []))
    refine Gl.of (fun _ kq_ => XS.iloadN X0.here hx rfl (hb hby at_13) rfl kq_) ?_
    show Gl p e below _ (s₁.setTop (mkF m 14 #[.val (.int p1), .val (.int p2), .val (.int p3), .val (.int p4), .val (.int (0 : Int32)), .unset, .unset, .unset, .unset, .unset, .unset, .unset] [(.int p1)]))
    refine Gl.of (fun _ kq_ => XS.iconst X0.here hx rfl (hb hby at_14) kq_) ?_
    show Gl p e below _ (s₁.setTop (mkF m 15 #[.val (.int p1), .val (.int p2), .val (.int p3), .val (.int p4), .val (.int (0 : Int32)), .unset, .unset, .unset, .unset, .unset, .unset, .unset] [(.int (3 : Int32)), (.int p1)]))
    refine Gl.of (fun _ kq_ => XS.iand X0.here hx rfl (hb hby at_15) rfl kq_) ?_
    show Gl p e below _ (s₁.setTop (mkF m 16 #[.val (.int p1), .val (.int p2), .val (.int p3), .val (.int p4), .val (.int (0 : Int32)), .unset, .unset, .unset, .unset, .unset, .unset, .unset] [(.int (p1 &&& (3 : Int32)))]))
    refine Gl.of (fun _ kq_ => XS.istore X0.here hx rfl (hb hby at_16) rfl (l' := #[.val (.int p1), .val (.int p2), .val (.int p3), .val (.int p4), .val (.int (0 : Int32)), .val (.int (p1 &&& (3 : Int32))), .unset, .unset, .unset, .unset, .unset, .unset]) rfl kq_) ?_
    show Gl p e below _ (s₁.setTop (mkF m 18 #[.val (.int p1), .val (.int p2), .val (.int p3), .val (.int p4), .val (.int (0 : Int32)), .val (.int (p1 &&& (3 : Int32))), .unset, .unset, .unset, .unset, .unset, .unset] []))
    refine Gl.of (fun _ kq_ => XS.iloadN X0.here hx rfl (hb hby at_18) rfl kq_) ?_
    show Gl p e below _ (s₁.setTop (mkF m 19 #[.val (.int p1), .val (.int p2), .val (.int p3), .val (.int p4), .val (.int (0 : Int32)), .val (.int (p1 &&& (3 : Int32))), .unset, .unset, .unset, .unset, .unset, .unset] [(.int p2)]))
    refine Gl.of (fun _ kq_ => X0.ldcInt hx hown (mvT hZ (w0 hw)) (g := (mkF m 19 #[.val (.int p1), .val (.int p2), .val (.int p3), .val (.int p4), .val (.int (0 : Int32)), .val (.int (p1 &&& (3 : Int32))), .unset, .unset, .unset, .unset, .unset, .unset] [(.int p2)])) rfl (hb hby at_19) _ kq_) ?_
    show Gl p e below _ (s₁.setTop (mkF m 21 #[.val (.int p1), .val (.int p2), .val (.int p3), .val (.int p4), .val (.int (0 : Int32)), .val (.int (p1 &&& (3 : Int32))), .unset, .unset, .unset, .unset, .unset, .unset] [(.int (65535 : Int32)), (.int p2)]))
    refine Gl.of (fun _ kq_ => XS.iand X0.here hx rfl (hb hby at_21) rfl kq_) ?_
    show Gl p e below _ (s₁.setTop (mkF m 22 #[.val (.int p1), .val (.int p2), .val (.int p3), .val (.int p4), .val (.int (0 : Int32)), .val (.int (p1 &&& (3 : Int32))), .unset, .unset, .unset, .unset, .unset, .unset] [(.int (p2 &&& (65535 : Int32)))]))
    refine Gl.of (fun _ kq_ => XS.i2c X0.here hx rfl (hb hby at_22) rfl kq_) ?_
    show Gl p e below _ (s₁.setTop (mkF m 23 #[.val (.int p1), .val (.int p2), .val (.int p3), .val (.int p4), .val (.int (0 : Int32)), .val (.int (p1 &&& (3 : Int32))), .unset, .unset, .unset, .unset, .unset, .unset] [(.int ((p2 &&& (65535 : Int32)).toUInt32.toUInt16.toUInt32.toInt32))]))
    refine Gl.of (fun _ kq_ => XS.istore X0.here hx rfl (hb hby at_23) rfl (l' := #[.val (.int p1), .val (.int p2), .val (.int p3), .val (.int p4), .val (.int (0 : Int32)), .val (.int (p1 &&& (3 : Int32))), .val (.int ((p2 &&& (65535 : Int32)).toUInt32.toUInt16.toUInt32.toInt32)), .unset, .unset, .unset, .unset, .unset]) rfl kq_) ?_
    show Gl p e below _ (s₁.setTop (mkF m 25 #[.val (.int p1), .val (.int p2), .val (.int p3), .val (.int p4), .val (.int (0 : Int32)), .val (.int (p1 &&& (3 : Int32))), .val (.int ((p2 &&& (65535 : Int32)).toUInt32.toUInt16.toUInt32.toInt32)), .unset, .unset, .unset, .unset, .unset] []))
    refine Gl.of (fun _ kq_ => XS.iloadN X0.here hx rfl (hb hby at_25) rfl kq_) ?_
    show Gl p e below _ (s₁.setTop (mkF m 26 #[.val (.int p1), .val (.int p2), .val (.int p3), .val (.int p4), .val (.int (0 : Int32)), .val (.int (p1 &&& (3 : Int32))), .val (.int ((p2 &&& (65535 : Int32)).toUInt32.toUInt16.toUInt32.toInt32)), .unset, .unset, .unset, .unset, .unset] [(.int p3)]))
    refine Gl.of (fun _ kq_ => X0.ldcInt hx hown (mvT hZ (w0 hw)) (g := (mkF m 26 #[.val (.int p1), .val (.int p2), .val (.int p3), .val (.int p4), .val (.int (0 : Int32)), .val (.int (p1 &&& (3 : Int32))), .val (.int ((p2 &&& (65535 : Int32)).toUInt32.toUInt16.toUInt32.toInt32)), .unset, .unset, .unset, .unset, .unset] [(.int p3)])) rfl (hb hby at_26) _ kq_) ?_
    show Gl p e below _ (s₁.setTop (mkF m 28 #[.val (.int p1), .val (.int p2), .val (.int p3), .val (.int p4), .val (.int (0 : Int32)), .val (.int (p1 &&& (3 : Int32))), .val (.int ((p2 &&& (65535 : Int32)).toUInt32.toUInt16.toUInt32.toInt32)), .unset, .unset, .unset, .unset, .unset] [(.int (65535 : Int32)), (.int p3)]))
    refine Gl.of (fun _ kq_ => XS.iand X0.here hx rfl (hb hby at_28) rfl kq_) ?_
    show Gl p e below _ (s₁.setTop (mkF m 29 #[.val (.int p1), .val (.int p2), .val (.int p3), .val (.int p4), .val (.int (0 : Int32)), .val (.int (p1 &&& (3 : Int32))), .val (.int ((p2 &&& (65535 : Int32)).toUInt32.toUInt16.toUInt32.toInt32)), .unset, .unset, .unset, .unset, .unset] [(.int (p3 &&& (65535 : Int32)))]))
    refine Gl.of (fun _ kq_ => XS.i2c X0.here hx rfl (hb hby at_29) rfl kq_) ?_
    show Gl p e below _ (s₁.setTop (mkF m 30 #[.val (.int p1), .val (.int p2), .val (.int p3), .val (.int p4), .val (.int (0 : Int32)), .val (.int (p1 &&& (3 : Int32))), .val (.int ((p2 &&& (65535 : Int32)).toUInt32.toUInt16.toUInt32.toInt32)), .unset, .unset, .unset, .unset, .unset] [(.int ((p3 &&& (65535 : Int32)).toUInt32.toUInt16.toUInt32.toInt32))]))
    refine Gl.of (fun _ kq_ => XS.istore X0.here hx rfl (hb hby at_30) rfl (l' := #[.val (.int p1), .val (.int p2), .val (.int p3), .val (.int p4), .val (.int (0 : Int32)), .val (.int (p1 &&& (3 : Int32))), .val (.int ((p2 &&& (65535 : Int32)).toUInt32.toUInt16.toUInt32.toInt32)), .val (.int ((p3 &&& (65535 : Int32)).toUInt32.toUInt16.toUInt32.toInt32)), .unset, .unset, .unset, .unset]) rfl kq_) ?_
    show Gl p e below _ (s₁.setTop (mkF m 32 #[.val (.int p1), .val (.int p2), .val (.int p3), .val (.int p4), .val (.int (0 : Int32)), .val (.int (p1 &&& (3 : Int32))), .val (.int ((p2 &&& (65535 : Int32)).toUInt32.toUInt16.toUInt32.toInt32)), .val (.int ((p3 &&& (65535 : Int32)).toUInt32.toUInt16.toUInt32.toInt32)), .unset, .unset, .unset, .unset] []))
    refine Gl.of (fun _ kq_ => XS.iloadN X0.here hx rfl (hb hby at_32) rfl kq_) ?_
    show Gl p e below _ (s₁.setTop (mkF m 33 #[.val (.int p1), .val (.int p2), .val (.int p3), .val (.int p4), .val (.int (0 : Int32)), .val (.int (p1 &&& (3 : Int32))), .val (.int ((p2 &&& (65535 : Int32)).toUInt32.toUInt16.toUInt32.toInt32)), .val (.int ((p3 &&& (65535 : Int32)).toUInt32.toUInt16.toUInt32.toInt32)), .unset, .unset, .unset, .unset] [(.int p4)]))
    refine Gl.of (fun _ kq_ => X0.ldcInt hx hown (mvT hZ (w0 hw)) (g := (mkF m 33 #[.val (.int p1), .val (.int p2), .val (.int p3), .val (.int p4), .val (.int (0 : Int32)), .val (.int (p1 &&& (3 : Int32))), .val (.int ((p2 &&& (65535 : Int32)).toUInt32.toUInt16.toUInt32.toInt32)), .val (.int ((p3 &&& (65535 : Int32)).toUInt32.toUInt16.toUInt32.toInt32)), .unset, .unset, .unset, .unset] [(.int p4)])) rfl (hb hby at_33) _ kq_) ?_
    show Gl p e below _ (s₁.setTop (mkF m 35 #[.val (.int p1), .val (.int p2), .val (.int p3), .val (.int p4), .val (.int (0 : Int32)), .val (.int (p1 &&& (3 : Int32))), .val (.int ((p2 &&& (65535 : Int32)).toUInt32.toUInt16.toUInt32.toInt32)), .val (.int ((p3 &&& (65535 : Int32)).toUInt32.toUInt16.toUInt32.toInt32)), .unset, .unset, .unset, .unset] [(.int (65535 : Int32)), (.int p4)]))
    refine Gl.of (fun _ kq_ => XS.iand X0.here hx rfl (hb hby at_35) rfl kq_) ?_
    show Gl p e below _ (s₁.setTop (mkF m 36 #[.val (.int p1), .val (.int p2), .val (.int p3), .val (.int p4), .val (.int (0 : Int32)), .val (.int (p1 &&& (3 : Int32))), .val (.int ((p2 &&& (65535 : Int32)).toUInt32.toUInt16.toUInt32.toInt32)), .val (.int ((p3 &&& (65535 : Int32)).toUInt32.toUInt16.toUInt32.toInt32)), .unset, .unset, .unset, .unset] [(.int (p4 &&& (65535 : Int32)))]))
    refine Gl.of (fun _ kq_ => XS.i2c X0.here hx rfl (hb hby at_36) rfl kq_) ?_
    show Gl p e below _ (s₁.setTop (mkF m 37 #[.val (.int p1), .val (.int p2), .val (.int p3), .val (.int p4), .val (.int (0 : Int32)), .val (.int (p1 &&& (3 : Int32))), .val (.int ((p2 &&& (65535 : Int32)).toUInt32.toUInt16.toUInt32.toInt32)), .val (.int ((p3 &&& (65535 : Int32)).toUInt32.toUInt16.toUInt32.toInt32)), .unset, .unset, .unset, .unset] [(.int ((p4 &&& (65535 : Int32)).toUInt32.toUInt16.toUInt32.toInt32))]))
    refine Gl.of (fun _ kq_ => XS.istore X0.here hx rfl (hb hby at_37) rfl (l' := #[.val (.int p1), .val (.int p2), .val (.int p3), .val (.int p4), .val (.int (0 : Int32)), .val (.int (p1 &&& (3 : Int32))), .val (.int ((p2 &&& (65535 : Int32)).toUInt32.toUInt16.toUInt32.toInt32)), .val (.int ((p3 &&& (65535 : Int32)).toUInt32.toUInt16.toUInt32.toInt32)), .val (.int ((p4 &&& (65535 : Int32)).toUInt32.toUInt16.toUInt32.toInt32)), .unset, .unset, .unset]) rfl kq_) ?_
    show Gl p e below _ (s₁.setTop (mkF m 39 #[.val (.int p1), .val (.int p2), .val (.int p3), .val (.int p4), .val (.int (0 : Int32)), .val (.int (p1 &&& (3 : Int32))), .val (.int ((p2 &&& (65535 : Int32)).toUInt32.toUInt16.toUInt32.toInt32)), .val (.int ((p3 &&& (65535 : Int32)).toUInt32.toUInt16.toUInt32.toInt32)), .val (.int ((p4 &&& (65535 : Int32)).toUInt32.toUInt16.toUInt32.toInt32)), .unset, .unset, .unset] []))
    refine Gl.of (fun _ kq_ => XS.iload X0.here hx rfl (hb hby at_39) rfl kq_) ?_
    show Gl p e below _ (s₁.setTop (mkF m 41 #[.val (.int p1), .val (.int p2), .val (.int p3), .val (.int p4), .val (.int (0 : Int32)), .val (.int (p1 &&& (3 : Int32))), .val (.int ((p2 &&& (65535 : Int32)).toUInt32.toUInt16.toUInt32.toInt32)), .val (.int ((p3 &&& (65535 : Int32)).toUInt32.toUInt16.toUInt32.toInt32)), .val (.int ((p4 &&& (65535 : Int32)).toUInt32.toUInt16.toUInt32.toInt32)), .unset, .unset, .unset] [(.int (0 : Int32))]))
    refine Gl.of (fun _ kq_ => XS.iload X0.here hx rfl (hb hby at_41) rfl kq_) ?_
    show Gl p e below _ (s₁.setTop (mkF m 43 #[.val (.int p1), .val (.int p2), .val (.int p3), .val (.int p4), .val (.int (0 : Int32)), .val (.int (p1 &&& (3 : Int32))), .val (.int ((p2 &&& (65535 : Int32)).toUInt32.toUInt16.toUInt32.toInt32)), .val (.int ((p3 &&& (65535 : Int32)).toUInt32.toUInt16.toUInt32.toInt32)), .val (.int ((p4 &&& (65535 : Int32)).toUInt32.toUInt16.toUInt32.toInt32)), .unset, .unset, .unset] [(.int (p1 &&& (3 : Int32))), (.int (0 : Int32))]))
    refine Gl.of (fun _ kq_ => XS.iload X0.here hx rfl (hb hby at_43) rfl kq_) ?_
    show Gl p e below _ (s₁.setTop (mkF m 45 #[.val (.int p1), .val (.int p2), .val (.int p3), .val (.int p4), .val (.int (0 : Int32)), .val (.int (p1 &&& (3 : Int32))), .val (.int ((p2 &&& (65535 : Int32)).toUInt32.toUInt16.toUInt32.toInt32)), .val (.int ((p3 &&& (65535 : Int32)).toUInt32.toUInt16.toUInt32.toInt32)), .val (.int ((p4 &&& (65535 : Int32)).toUInt32.toUInt16.toUInt32.toInt32)), .unset, .unset, .unset] [(.int ((p2 &&& (65535 : Int32)).toUInt32.toUInt16.toUInt32.toInt32)), (.int (p1 &&& (3 : Int32))), (.int (0 : Int32))]))
    refine Gl.of (fun _ kq_ => XS.iload X0.here hx rfl (hb hby at_45) rfl kq_) ?_
    show Gl p e below _ (s₁.setTop (mkF m 47 #[.val (.int p1), .val (.int p2), .val (.int p3), .val (.int p4), .val (.int (0 : Int32)), .val (.int (p1 &&& (3 : Int32))), .val (.int ((p2 &&& (65535 : Int32)).toUInt32.toUInt16.toUInt32.toInt32)), .val (.int ((p3 &&& (65535 : Int32)).toUInt32.toUInt16.toUInt32.toInt32)), .val (.int ((p4 &&& (65535 : Int32)).toUInt32.toUInt16.toUInt32.toInt32)), .unset, .unset, .unset] [(.int ((p3 &&& (65535 : Int32)).toUInt32.toUInt16.toUInt32.toInt32)), (.int ((p2 &&& (65535 : Int32)).toUInt32.toUInt16.toUInt32.toInt32)), (.int (p1 &&& (3 : Int32))), (.int (0 : Int32))]))
    refine Gl.of (fun _ kq_ => XS.iload X0.here hx rfl (hb hby at_47) rfl kq_) ?_
    show Gl p e below _ (s₁.setTop (mkF m 49 #[.val (.int p1), .val (.int p2), .val (.int p3), .val (.int p4), .val (.int (0 : Int32)), .val (.int (p1 &&& (3 : Int32))), .val (.int ((p2 &&& (65535 : Int32)).toUInt32.toUInt16.toUInt32.toInt32)), .val (.int ((p3 &&& (65535 : Int32)).toUInt32.toUInt16.toUInt32.toInt32)), .val (.int ((p4 &&& (65535 : Int32)).toUInt32.toUInt16.toUInt32.toInt32)), .unset, .unset, .unset] [(.int ((p4 &&& (65535 : Int32)).toUInt32.toUInt16.toUInt32.toInt32)), (.int ((p3 &&& (65535 : Int32)).toUInt32.toUInt16.toUInt32.toInt32)), (.int ((p2 &&& (65535 : Int32)).toUInt32.toUInt16.toUInt32.toInt32)), (.int (p1 &&& (3 : Int32))), (.int (0 : Int32))]))
    refine Gl.callSE X0 hx hZ hS0 hk0 (own_el hw) hR0 (y := (⟨"com/example/pathstone/pathstone/NodeIsUnnamedPinLaw", "makeName", "(ZICCC)Ljava/lang/String;"⟩ : MethodName)) hown (w1 hw) (w2 hw) (w3 hw) (w4 hw) (desc_ne (by decide)) (rm := { frames := 6, cells := 4, slots := 24, locals := 100 }) (argsL := [(.int (0 : Int32)), (.int (p1 &&& (3 : Int32))), (.int ((p2 &&& (65535 : Int32)).toUInt32.toUInt16.toUInt32.toInt32)), (.int ((p3 &&& (65535 : Int32)).toUInt32.toUInt16.toUInt32.toInt32)), (.int ((p4 &&& (65535 : Int32)).toUInt32.toUInt16.toUInt32.toInt32))]) (rest := []) (rmM l Z a0 hw _ (0 : Int32) (p1 &&& (3 : Int32)) ((p2 &&& (65535 : Int32)).toUInt32.toUInt16.toUInt32.toInt32) ((p3 &&& (65535 : Int32)).toUInt32.toUInt16.toUInt32.toInt32) ((p4 &&& (65535 : Int32)).toUInt32.toUInt16.toUInt32.toInt32) cz n0 SC hcz Sa Sh Sl O0) 0 (by decide) (by decide) (by decide) (by decide) e0 (pc := 49) (Ls := #[.val (.int p1), .val (.int p2), .val (.int p3), .val (.int p4), .val (.int (0 : Int32)), .val (.int (p1 &&& (3 : Int32))), .val (.int ((p2 &&& (65535 : Int32)).toUInt32.toUInt16.toUInt32.toInt32)), .val (.int ((p3 &&& (65535 : Int32)).toUInt32.toUInt16.toUInt32.toInt32)), .val (.int ((p4 &&& (65535 : Int32)).toUInt32.toUInt16.toUInt32.toInt32)), .unset, .unset, .unset]) (st := [(.int ((p4 &&& (65535 : Int32)).toUInt32.toUInt16.toUInt32.toInt32)), (.int ((p3 &&& (65535 : Int32)).toUInt32.toUInt16.toUInt32.toInt32)), (.int ((p2 &&& (65535 : Int32)).toUInt32.toUInt16.toUInt32.toInt32)), (.int (p1 &&& (3 : Int32))), (.int (0 : Int32))]) (by rw [hml]; rfl) pd_15 rfl rfl (Nat.le_of_eq rfl) (hb hby at_49) ?_
    intro v2 T2 L2 X2 hS2 hZ hown hQ2
    obtain ⟨w2, rfl, Kq2, Nq2, nm2⟩ := hQ2
    have N2 := Fr.app (Fr.nil n0) Nq2
    have O2 := O0.keep Kq2 all0
    have K2 := K0.trans Kq2 (by intro x hx'; exact nomatch hx')
    have hk2 := Nat.le_trans hk0 Kq2.1
    rcases nm2 with ⟨hi_, rfl⟩ | ⟨hi_, xs_, ts_, ks_, zs_, vs_, rfl, Es_, Fs_, Vs_, ⟨hk_, hz_⟩ | ⟨hk_, hz_⟩⟩
    · exact absurd hi_ (by decide)
    · show Gl p e below _ (T2.setTop (mkF m 52 #[.val (.int p1), .val (.int p2), .val (.int p3), .val (.int p4), .val (.int (0 : Int32)), .val (.int (p1 &&& (3 : Int32))), .val (.int ((p2 &&& (65535 : Int32)).toUInt32.toUInt16.toUInt32.toInt32)), .val (.int ((p3 &&& (65535 : Int32)).toUInt32.toUInt16.toUInt32.toInt32)), .val (.int ((p4 &&& (65535 : Int32)).toUInt32.toUInt16.toUInt32.toInt32)), .unset, .unset, .unset] [(.ref xs_)]))
      refine Gl.of (fun _ kq_ => XS.astore X2.here hx rfl (hb hby at_52) rfl rfl (l' := #[.val (.int p1), .val (.int p2), .val (.int p3), .val (.int p4), .val (.int (0 : Int32)), .val (.int (p1 &&& (3 : Int32))), .val (.int ((p2 &&& (65535 : Int32)).toUInt32.toUInt16.toUInt32.toInt32)), .val (.int ((p3 &&& (65535 : Int32)).toUInt32.toUInt16.toUInt32.toInt32)), .val (.int ((p4 &&& (65535 : Int32)).toUInt32.toUInt16.toUInt32.toInt32)), .val (.ref xs_), .unset, .unset]) rfl kq_) ?_
      show Gl p e below _ (T2.setTop (mkF m 54 #[.val (.int p1), .val (.int p2), .val (.int p3), .val (.int p4), .val (.int (0 : Int32)), .val (.int (p1 &&& (3 : Int32))), .val (.int ((p2 &&& (65535 : Int32)).toUInt32.toUInt16.toUInt32.toInt32)), .val (.int ((p3 &&& (65535 : Int32)).toUInt32.toUInt16.toUInt32.toInt32)), .val (.int ((p4 &&& (65535 : Int32)).toUInt32.toUInt16.toUInt32.toInt32)), .val (.ref xs_), .unset, .unset] []))
      obtain ⟨T3, h3, X3, e3, E3, A3, D3, -, st3⟩ := newO X2 hx hZ hown (w27 hw) (w28 hw) (w29 hw) rfl (g := (mkF m 54 #[.val (.int p1), .val (.int p2), .val (.int p3), .val (.int p4), .val (.int (0 : Int32)), .val (.int (p1 &&& (3 : Int32))), .val (.int ((p2 &&& (65535 : Int32)).toUInt32.toUInt16.toUInt32.toInt32)), .val (.int ((p3 &&& (65535 : Int32)).toUInt32.toUInt16.toUInt32.toInt32)), .val (.int ((p4 &&& (65535 : Int32)).toUInt32.toUInt16.toUInt32.toInt32)), .val (.ref xs_), .unset, .unset] [])) rfl (hb hby at_54) (by decide) (by decide)
      obtain ⟨b3, g3⟩ : ∃ z, z = T2.heap.size := ⟨_, rfl⟩
      rw [← g3] at A3 D3 st3
      refine Gl.of st3 ?_
      have Gb3 : n0 ≤ b3 := Nat.le_trans (O2.1 ▸ O2.2.1) (Nat.le_of_eq g3.symm)
      have Jb3 : h0.size ≤ b3 := Nat.le_trans K2.1 (Nat.le_of_eq g3.symm)
      have ne_xs__b3 : xs_ ≠ b3 := Nat.ne_of_lt (Nat.lt_of_lt_of_le Es_.lt (Nat.le_of_eq g3.symm))
      have ne_ts__b3 : ts_ ≠ b3 := Nat.ne_of_lt (Nat.lt_of_lt_of_le Vs_.lt (Nat.le_of_eq g3.symm))
      have ec4 := Es_.ext E3
      have fc5 := Fs_.ext E3
      have vc6 := Vs_.ext E3
      have O3 := O2.ext E3
      have K3 := K2.ext E3
      have hk3 := Nat.le_trans (Nat.le_refl _) E3.1
      have F3_children : Fld Z h3 b3 "com/example/pathstone/pathstone/Tree$Node" "children" "Ljava/util/List;" .null := D3 (Or.inr (w59 hw)) (ty := (.object "java/util/List")) (by decide)
      have F3_length : Fld Z h3 b3 "com/example/pathstone/pathstone/Tree$Node" "length" "D" (.double (0 : UInt64)) := D3 (Or.inl (w62 hw)) (ty := .double) (by decide)
      have F3_name : Fld Z h3 b3 "com/example/pathstone/pathstone/Tree$Node" "name" "Ljava/lang/String;" .null := D3 (Or.inr (w64 hw)) (ty := (.object "java/lang/String")) (by decide)
      show Gl p e below _ (T3.setTop (mkF m 57 #[.val (.int p1), .val (.int p2), .val (.int p3), .val (.int p4), .val (.int (0 : Int32)), .val (.int (p1 &&& (3 : Int32))), .val (.int ((p2 &&& (65535 : Int32)).toUInt32.toUInt16.toUInt32.toInt32)), .val (.int ((p3 &&& (65535 : Int32)).toUInt32.toUInt16.toUInt32.toInt32)), .val (.int ((p4 &&& (65535 : Int32)).toUInt32.toUInt16.toUInt32.toInt32)), .val (.ref xs_), .unset, .unset] [(.ref b3)]))
      refine Gl.of (fun _ kq_ => XS.dup X3.here hx rfl (hb hby at_57) rfl rfl kq_) ?_
      show Gl p e below _ (T3.setTop (mkF m 58 #[.val (.int p1), .val (.int p2), .val (.int p3), .val (.int p4), .val (.int (0 : Int32)), .val (.int (p1 &&& (3 : Int32))), .val (.int ((p2 &&& (65535 : Int32)).toUInt32.toUInt16.toUInt32.toInt32)), .val (.int ((p3 &&& (65535 : Int32)).toUInt32.toUInt16.toUInt32.toInt32)), .val (.int ((p4 &&& (65535 : Int32)).toUInt32.toUInt16.toUInt32.toInt32)), .val (.ref xs_), .unset, .unset] [(.ref b3), (.ref b3)]))
      refine Gl.of (fun _ kq_ => XS.aload X3.here hx rfl (hb hby at_58) rfl rfl kq_) ?_
      show Gl p e below _ (T3.setTop (mkF m 60 #[.val (.int p1), .val (.int p2), .val (.int p3), .val (.int p4), .val (.int (0 : Int32)), .val (.int (p1 &&& (3 : Int32))), .val (.int ((p2 &&& (65535 : Int32)).toUInt32.toUInt16.toUInt32.toInt32)), .val (.int ((p3 &&& (65535 : Int32)).toUInt32.toUInt16.toUInt32.toInt32)), .val (.int ((p4 &&& (65535 : Int32)).toUInt32.toUInt16.toUInt32.toInt32)), .val (.ref xs_), .unset, .unset] [(.ref xs_), (.ref b3), (.ref b3)]))
      refine Gl.callI X3 hx hZ (y := (⟨"com/example/pathstone/pathstone/Tree$Node", "<init>", "(Ljava/lang/String;)V"⟩ : MethodName)) rfl hown (w30 hw) (w31 hw) (w29 hw) (w32 hw) (desc_ne (by decide)) (rm := { frames := 4, cells := 1, slots := 3, locals := 50 }) (b := b3) (argsL := [(.ref xs_)]) (rest := [(.ref b3)]) (rmN l Z a0 hw _ b3 ad (.ref xs_) n0 rfl Sd A3 F3_children F3_length F3_name Gb3 O3) 1 (by decide) (by decide) (by decide) (by decide) e3 (pc := 60) (Ls := #[.val (.int p1), .val (.int p2), .val (.int p3), .val (.int p4), .val (.int (0 : Int32)), .val (.int (p1 &&& (3 : Int32))), .val (.int ((p2 &&& (65535 : Int32)).toUInt32.toUInt16.toUInt32.toInt32)), .val (.int ((p3 &&& (65535 : Int32)).toUInt32.toUInt16.toUInt32.toInt32)), .val (.int ((p4 &&& (65535 : Int32)).toUInt32.toUInt16.toUInt32.toInt32)), .val (.ref xs_), .unset, .unset]) (st := [(.ref xs_), (.ref b3), (.ref b3)]) (by rw [hml]; rfl) pd_16 rfl rfl (Nat.le_of_eq rfl) (hb hby at_60) ?_
      intro v7 T7 L7 X7 hQ7
      obtain ⟨rfl, Nq7, Kq7, Fq7⟩ := hQ7
      have N7 := Fr.app N2 Nq7
      have ec8 := ec4.keep Kq7
      have fc9 := fc5.keep Kq7 (fun q => ne_xs__b3 (List.mem_singleton.mp q))
      have vc10 := vc6.keep Kq7 (fun q => ne_ts__b3 (List.mem_singleton.mp q))
      have ec11 := A3.keep Kq7
      have O7 := O3.keep Kq7 (allS Gb3 all0)
      have K7 := K3.trans Kq7 (by intro x hx'; cases List.mem_singleton.mp hx'; exact Or.inr Jb3)
      have hk7 := Nat.le_trans hk3 Kq7.1
      show Gl p e below _ (T7.setTop (mkF m 63 #[.val (.int p1), .val (.int p2), .val (.int p3), .val (.int p4), .val (.int (0 : Int32)), .val (.int (p1 &&& (3 : Int32))), .val (.int ((p2 &&& (65535 : Int32)).toUInt32.toUInt16.toUInt32.toInt32)), .val (.int ((p3 &&& (65535 : Int32)).toUInt32.toUInt16.toUInt32.toInt32)), .val (.int ((p4 &&& (65535 : Int32)).toUInt32.toUInt16.toUInt32.toInt32)), .val (.ref xs_), .unset, .unset] [(.ref b3)]))
      refine Gl.of (fun _ kq_ => XS.astore X7.here hx rfl (hb hby at_63) rfl rfl (l' := #[.val (.int p1), .val (.int p2), .val (.int p3), .val (.int p4), .val (.int (0 : Int32)), .val (.int (p1 &&& (3 : Int32))), .val (.int ((p2 &&& (65535 : Int32)).toUInt32.toUInt16.toUInt32.toInt32)), .val (.int ((p3 &&& (65535 : Int32)).toUInt32.toUInt16.toUInt32.toInt32)), .val (.int ((p4 &&& (65535 : Int32)).toUInt32.toUInt16.toUInt32.toInt32)), .val (.ref xs_), .val (.ref b3), .unset]) rfl kq_) ?_
      show Gl p e below _ (T7.setTop (mkF m 65 #[.val (.int p1), .val (.int p2), .val (.int p3), .val (.int p4), .val (.int (0 : Int32)), .val (.int (p1 &&& (3 : Int32))), .val (.int ((p2 &&& (65535 : Int32)).toUInt32.toUInt16.toUInt32.toInt32)), .val (.int ((p3 &&& (65535 : Int32)).toUInt32.toUInt16.toUInt32.toInt32)), .val (.int ((p4 &&& (65535 : Int32)).toUInt32.toUInt16.toUInt32.toInt32)), .val (.ref xs_), .val (.ref b3), .unset] []))
      refine Gl.of (fun _ kq_ => XS.iload X7.here hx rfl (hb hby at_65) rfl kq_) ?_
      show Gl p e below _ (T7.setTop (mkF m 67 #[.val (.int p1), .val (.int p2), .val (.int p3), .val (.int p4), .val (.int (0 : Int32)), .val (.int (p1 &&& (3 : Int32))), .val (.int ((p2 &&& (65535 : Int32)).toUInt32.toUInt16.toUInt32.toInt32)), .val (.int ((p3 &&& (65535 : Int32)).toUInt32.toUInt16.toUInt32.toInt32)), .val (.int ((p4 &&& (65535 : Int32)).toUInt32.toUInt16.toUInt32.toInt32)), .val (.ref xs_), .val (.ref b3), .unset] [(.int (0 : Int32))]))
      refine Gl.of (fun _ kq_ => XS.ifNo X7.here hx rfl (hb hby at_67) rfl ((if0 _ _).trans (teq (by decide : (0 : Int32) = (0 : Int32))).2) kq_) ?_
      show Gl p e below _ (T7.setTop (mkF m 70 #[.val (.int p1), .val (.int p2), .val (.int p3), .val (.int p4), .val (.int (0 : Int32)), .val (.int (p1 &&& (3 : Int32))), .val (.int ((p2 &&& (65535 : Int32)).toUInt32.toUInt16.toUInt32.toInt32)), .val (.int ((p3 &&& (65535 : Int32)).toUInt32.toUInt16.toUInt32.toInt32)), .val (.int ((p4 &&& (65535 : Int32)).toUInt32.toUInt16.toUInt32.toInt32)), .val (.ref xs_), .val (.ref b3), .unset] []))
      refine Gl.of (fun _ kq_ => XS.iload X7.here hx rfl (hb hby at_70) rfl kq_) ?_
      show Gl p e below _ (T7.setTop (mkF m 72 #[.val (.int p1), .val (.int p2), .val (.int p3), .val (.int p4), .val (.int (0 : Int32)), .val (.int (p1 &&& (3 : Int32))), .val (.int ((p2 &&& (65535 : Int32)).toUInt32.toUInt16.toUInt32.toInt32)), .val (.int ((p3 &&& (65535 : Int32)).toUInt32.toUInt16.toUInt32.toInt32)), .val (.int ((p4 &&& (65535 : Int32)).toUInt32.toUInt16.toUInt32.toInt32)), .val (.ref xs_), .val (.ref b3), .unset] [(.int (p1 &&& (3 : Int32)))]))
      refine Gl.of (fun _ kq_ => XS.ifNo X7.here hx rfl (hb hby at_72) rfl ((if0 _ _).trans (teq hk_).2) kq_) ?_
      show Gl p e below _ (T7.setTop (mkF m 75 #[.val (.int p1), .val (.int p2), .val (.int p3), .val (.int p4), .val (.int (0 : Int32)), .val (.int (p1 &&& (3 : Int32))), .val (.int ((p2 &&& (65535 : Int32)).toUInt32.toUInt16.toUInt32.toInt32)), .val (.int ((p3 &&& (65535 : Int32)).toUInt32.toUInt16.toUInt32.toInt32)), .val (.int ((p4 &&& (65535 : Int32)).toUInt32.toUInt16.toUInt32.toInt32)), .val (.ref xs_), .val (.ref b3), .unset] []))
      refine Gl.of (fun _ kq_ => XS.iconst X7.here hx rfl (hb hby at_75) kq_) ?_
      show Gl p e below _ (T7.setTop (mkF m 76 #[.val (.int p1), .val (.int p2), .val (.int p3), .val (.int p4), .val (.int (0 : Int32)), .val (.int (p1 &&& (3 : Int32))), .val (.int ((p2 &&& (65535 : Int32)).toUInt32.toUInt16.toUInt32.toInt32)), .val (.int ((p3 &&& (65535 : Int32)).toUInt32.toUInt16.toUInt32.toInt32)), .val (.int ((p4 &&& (65535 : Int32)).toUInt32.toUInt16.toUInt32.toInt32)), .val (.ref xs_), .val (.ref b3), .unset] [(.int (1 : Int32))]))
      refine Gl.of (fun _ kq_ => XS.goto X7.here hx rfl (pc0 := 76) (pc' := 80) rfl (hb hby at_76) (by decide) (by decide) kq_) ?_
      show Gl p e below _ (T7.setTop (mkF m 80 #[.val (.int p1), .val (.int p2), .val (.int p3), .val (.int p4), .val (.int (0 : Int32)), .val (.int (p1 &&& (3 : Int32))), .val (.int ((p2 &&& (65535 : Int32)).toUInt32.toUInt16.toUInt32.toInt32)), .val (.int ((p3 &&& (65535 : Int32)).toUInt32.toUInt16.toUInt32.toInt32)), .val (.int ((p4 &&& (65535 : Int32)).toUInt32.toUInt16.toUInt32.toInt32)), .val (.ref xs_), .val (.ref b3), .unset] [(.int (1 : Int32))]))
      refine Gl.of (fun _ kq_ => XS.istore X7.here hx rfl (hb hby at_80) rfl (l' := #[.val (.int p1), .val (.int p2), .val (.int p3), .val (.int p4), .val (.int (0 : Int32)), .val (.int (p1 &&& (3 : Int32))), .val (.int ((p2 &&& (65535 : Int32)).toUInt32.toUInt16.toUInt32.toInt32)), .val (.int ((p3 &&& (65535 : Int32)).toUInt32.toUInt16.toUInt32.toInt32)), .val (.int ((p4 &&& (65535 : Int32)).toUInt32.toUInt16.toUInt32.toInt32)), .val (.ref xs_), .val (.ref b3), .val (.int (1 : Int32))]) rfl kq_) ?_
      show Gl p e below _ (T7.setTop (mkF m 82 #[.val (.int p1), .val (.int p2), .val (.int p3), .val (.int p4), .val (.int (0 : Int32)), .val (.int (p1 &&& (3 : Int32))), .val (.int ((p2 &&& (65535 : Int32)).toUInt32.toUInt16.toUInt32.toInt32)), .val (.int ((p3 &&& (65535 : Int32)).toUInt32.toUInt16.toUInt32.toInt32)), .val (.int ((p4 &&& (65535 : Int32)).toUInt32.toUInt16.toUInt32.toInt32)), .val (.ref xs_), .val (.ref b3), .val (.int (1 : Int32))] []))
      refine Gl.of (fun _ kq_ => XS.aload X7.here hx rfl (hb hby at_82) rfl rfl kq_) ?_
      show Gl p e below _ (T7.setTop (mkF m 84 #[.val (.int p1), .val (.int p2), .val (.int p3), .val (.int p4), .val (.int (0 : Int32)), .val (.int (p1 &&& (3 : Int32))), .val (.int ((p2 &&& (65535 : Int32)).toUInt32.toUInt16.toUInt32.toInt32)), .val (.int ((p3 &&& (65535 : Int32)).toUInt32.toUInt16.toUInt32.toInt32)), .val (.int ((p4 &&& (65535 : Int32)).toUInt32.toUInt16.toUInt32.toInt32)), .val (.ref xs_), .val (.ref b3), .val (.int (1 : Int32))] [(.ref b3)]))
      refine Gl.callV0 X7 hx hZ (y := (⟨"com/example/pathstone/pathstone/Tree$Node", "isUnnamed", "()Z"⟩ : MethodName)) (z := (⟨"com/example/pathstone/pathstone/Tree$Node", "isUnnamed", "()Z"⟩ : MethodName)) hown (w65 hw) (w66 hw) (notFace_of_selects (args := #[]) (mvT hZ (w68 hw))) (w68 hw) (w67 hw) (w69 hw) (w29 hw) (desc_ne (by decide)) (b := b3) (argsL := []) (rest := []) ec11 (rmU1 l Z a0 hw _ b3 xs_ ts_ ks_ zs_ vs_ Fq7 ec8 fc9 vc10 hz_) 0 (by decide) (by decide) rfl (pc := 84) (Ls := #[.val (.int p1), .val (.int p2), .val (.int p3), .val (.int p4), .val (.int (0 : Int32)), .val (.int (p1 &&& (3 : Int32))), .val (.int ((p2 &&& (65535 : Int32)).toUInt32.toUInt16.toUInt32.toInt32)), .val (.int ((p3 &&& (65535 : Int32)).toUInt32.toUInt16.toUInt32.toInt32)), .val (.int ((p4 &&& (65535 : Int32)).toUInt32.toUInt16.toUInt32.toInt32)), .val (.ref xs_), .val (.ref b3), .val (.int (1 : Int32))]) (st := [(.ref b3)]) (by rw [hml]; rfl) pd_14 rfl rfl (Nat.le_of_eq rfl) (hb hby at_84) (by decide) (by decide) ?_
      intro v12 T12 X12 e12 hv12
      subst hv12
      show Gl p e below _ (T12.setTop (mkF m 87 #[.val (.int p1), .val (.int p2), .val (.int p3), .val (.int p4), .val (.int (0 : Int32)), .val (.int (p1 &&& (3 : Int32))), .val (.int ((p2 &&& (65535 : Int32)).toUInt32.toUInt16.toUInt32.toInt32)), .val (.int ((p3 &&& (65535 : Int32)).toUInt32.toUInt16.toUInt32.toInt32)), .val (.int ((p4 &&& (65535 : Int32)).toUInt32.toUInt16.toUInt32.toInt32)), .val (.ref xs_), .val (.ref b3), .val (.int (1 : Int32))] [(.int (1 : Int32))]))
      refine Gl.of (fun _ kq_ => XS.iload X12.here hx rfl (hb hby at_87) rfl kq_) ?_
      show Gl p e below _ (T12.setTop (mkF m 89 #[.val (.int p1), .val (.int p2), .val (.int p3), .val (.int p4), .val (.int (0 : Int32)), .val (.int (p1 &&& (3 : Int32))), .val (.int ((p2 &&& (65535 : Int32)).toUInt32.toUInt16.toUInt32.toInt32)), .val (.int ((p3 &&& (65535 : Int32)).toUInt32.toUInt16.toUInt32.toInt32)), .val (.int ((p4 &&& (65535 : Int32)).toUInt32.toUInt16.toUInt32.toInt32)), .val (.ref xs_), .val (.ref b3), .val (.int (1 : Int32))] [(.int (1 : Int32)), (.int (1 : Int32))]))
      refine Gl.of (fun _ kq_ => XS.icmpNo X12.here hx rfl (hb hby at_89) rfl (teq (by decide : (1 : Int32) = (1 : Int32))).2 kq_) ?_
      show Gl p e below _ (T12.setTop (mkF m 92 #[.val (.int p1), .val (.int p2), .val (.int p3), .val (.int p4), .val (.int (0 : Int32)), .val (.int (p1 &&& (3 : Int32))), .val (.int ((p2 &&& (65535 : Int32)).toUInt32.toUInt16.toUInt32.toInt32)), .val (.int ((p3 &&& (65535 : Int32)).toUInt32.toUInt16.toUInt32.toInt32)), .val (.int ((p4 &&& (65535 : Int32)).toUInt32.toUInt16.toUInt32.toInt32)), .val (.ref xs_), .val (.ref b3), .val (.int (1 : Int32))] []))
      refine Gl.of (fun _ kq_ => XS.iconst X12.here hx rfl (hb hby at_92) kq_) ?_
      show Gl p e below _ (T12.setTop (mkF m 93 #[.val (.int p1), .val (.int p2), .val (.int p3), .val (.int p4), .val (.int (0 : Int32)), .val (.int (p1 &&& (3 : Int32))), .val (.int ((p2 &&& (65535 : Int32)).toUInt32.toUInt16.toUInt32.toInt32)), .val (.int ((p3 &&& (65535 : Int32)).toUInt32.toUInt16.toUInt32.toInt32)), .val (.int ((p4 &&& (65535 : Int32)).toUInt32.toUInt16.toUInt32.toInt32)), .val (.ref xs_), .val (.ref b3), .val (.int (1 : Int32))] [(.int (1 : Int32))]))
      refine Gl.of (fun _ kq_ => XS.goto X12.here hx rfl (pc0 := 93) (pc' := 97) rfl (hb hby at_93) (by decide) (by decide) kq_) ?_
      show Gl p e below _ (T12.setTop (mkF m 97 #[.val (.int p1), .val (.int p2), .val (.int p3), .val (.int p4), .val (.int (0 : Int32)), .val (.int (p1 &&& (3 : Int32))), .val (.int ((p2 &&& (65535 : Int32)).toUInt32.toUInt16.toUInt32.toInt32)), .val (.int ((p3 &&& (65535 : Int32)).toUInt32.toUInt16.toUInt32.toInt32)), .val (.int ((p4 &&& (65535 : Int32)).toUInt32.toUInt16.toUInt32.toInt32)), .val (.ref xs_), .val (.ref b3), .val (.int (1 : Int32))] [(.int (1 : Int32))]))
      exact Gl.retNW X12 hx hlk hret (by simp) (hb hby at_97) e12 (⟨rfl, N7⟩) hS2 hk7 (by decide) (by decide)
    · show Gl p e below _ (T2.setTop (mkF m 52 #[.val (.int p1), .val (.int p2), .val (.int p3), .val (.int p4), .val (.int (0 : Int32)), .val (.int (p1 &&& (3 : Int32))), .val (.int ((p2 &&& (65535 : Int32)).toUInt32.toUInt16.toUInt32.toInt32)), .val (.int ((p3 &&& (65535 : Int32)).toUInt32.toUInt16.toUInt32.toInt32)), .val (.int ((p4 &&& (65535 : Int32)).toUInt32.toUInt16.toUInt32.toInt32)), .unset, .unset, .unset] [(.ref xs_)]))
      refine Gl.of (fun _ kq_ => XS.astore X2.here hx rfl (hb hby at_52) rfl rfl (l' := #[.val (.int p1), .val (.int p2), .val (.int p3), .val (.int p4), .val (.int (0 : Int32)), .val (.int (p1 &&& (3 : Int32))), .val (.int ((p2 &&& (65535 : Int32)).toUInt32.toUInt16.toUInt32.toInt32)), .val (.int ((p3 &&& (65535 : Int32)).toUInt32.toUInt16.toUInt32.toInt32)), .val (.int ((p4 &&& (65535 : Int32)).toUInt32.toUInt16.toUInt32.toInt32)), .val (.ref xs_), .unset, .unset]) rfl kq_) ?_
      show Gl p e below _ (T2.setTop (mkF m 54 #[.val (.int p1), .val (.int p2), .val (.int p3), .val (.int p4), .val (.int (0 : Int32)), .val (.int (p1 &&& (3 : Int32))), .val (.int ((p2 &&& (65535 : Int32)).toUInt32.toUInt16.toUInt32.toInt32)), .val (.int ((p3 &&& (65535 : Int32)).toUInt32.toUInt16.toUInt32.toInt32)), .val (.int ((p4 &&& (65535 : Int32)).toUInt32.toUInt16.toUInt32.toInt32)), .val (.ref xs_), .unset, .unset] []))
      obtain ⟨T13, h13, X13, e13, E13, A13, D13, -, st13⟩ := newO X2 hx hZ hown (w27 hw) (w28 hw) (w29 hw) rfl (g := (mkF m 54 #[.val (.int p1), .val (.int p2), .val (.int p3), .val (.int p4), .val (.int (0 : Int32)), .val (.int (p1 &&& (3 : Int32))), .val (.int ((p2 &&& (65535 : Int32)).toUInt32.toUInt16.toUInt32.toInt32)), .val (.int ((p3 &&& (65535 : Int32)).toUInt32.toUInt16.toUInt32.toInt32)), .val (.int ((p4 &&& (65535 : Int32)).toUInt32.toUInt16.toUInt32.toInt32)), .val (.ref xs_), .unset, .unset] [])) rfl (hb hby at_54) (by decide) (by decide)
      obtain ⟨b13, g13⟩ : ∃ z, z = T2.heap.size := ⟨_, rfl⟩
      rw [← g13] at A13 D13 st13
      refine Gl.of st13 ?_
      have Gb13 : n0 ≤ b13 := Nat.le_trans (O2.1 ▸ O2.2.1) (Nat.le_of_eq g13.symm)
      have Jb13 : h0.size ≤ b13 := Nat.le_trans K2.1 (Nat.le_of_eq g13.symm)
      have ne_xs__b13 : xs_ ≠ b13 := Nat.ne_of_lt (Nat.lt_of_lt_of_le Es_.lt (Nat.le_of_eq g13.symm))
      have ne_ts__b13 : ts_ ≠ b13 := Nat.ne_of_lt (Nat.lt_of_lt_of_le Vs_.lt (Nat.le_of_eq g13.symm))
      have ec14 := Es_.ext E13
      have fc15 := Fs_.ext E13
      have vc16 := Vs_.ext E13
      have O13 := O2.ext E13
      have K13 := K2.ext E13
      have hk13 := Nat.le_trans (Nat.le_refl _) E13.1
      have F13_children : Fld Z h13 b13 "com/example/pathstone/pathstone/Tree$Node" "children" "Ljava/util/List;" .null := D13 (Or.inr (w59 hw)) (ty := (.object "java/util/List")) (by decide)
      have F13_length : Fld Z h13 b13 "com/example/pathstone/pathstone/Tree$Node" "length" "D" (.double (0 : UInt64)) := D13 (Or.inl (w62 hw)) (ty := .double) (by decide)
      have F13_name : Fld Z h13 b13 "com/example/pathstone/pathstone/Tree$Node" "name" "Ljava/lang/String;" .null := D13 (Or.inr (w64 hw)) (ty := (.object "java/lang/String")) (by decide)
      show Gl p e below _ (T13.setTop (mkF m 57 #[.val (.int p1), .val (.int p2), .val (.int p3), .val (.int p4), .val (.int (0 : Int32)), .val (.int (p1 &&& (3 : Int32))), .val (.int ((p2 &&& (65535 : Int32)).toUInt32.toUInt16.toUInt32.toInt32)), .val (.int ((p3 &&& (65535 : Int32)).toUInt32.toUInt16.toUInt32.toInt32)), .val (.int ((p4 &&& (65535 : Int32)).toUInt32.toUInt16.toUInt32.toInt32)), .val (.ref xs_), .unset, .unset] [(.ref b13)]))
      refine Gl.of (fun _ kq_ => XS.dup X13.here hx rfl (hb hby at_57) rfl rfl kq_) ?_
      show Gl p e below _ (T13.setTop (mkF m 58 #[.val (.int p1), .val (.int p2), .val (.int p3), .val (.int p4), .val (.int (0 : Int32)), .val (.int (p1 &&& (3 : Int32))), .val (.int ((p2 &&& (65535 : Int32)).toUInt32.toUInt16.toUInt32.toInt32)), .val (.int ((p3 &&& (65535 : Int32)).toUInt32.toUInt16.toUInt32.toInt32)), .val (.int ((p4 &&& (65535 : Int32)).toUInt32.toUInt16.toUInt32.toInt32)), .val (.ref xs_), .unset, .unset] [(.ref b13), (.ref b13)]))
      refine Gl.of (fun _ kq_ => XS.aload X13.here hx rfl (hb hby at_58) rfl rfl kq_) ?_
      show Gl p e below _ (T13.setTop (mkF m 60 #[.val (.int p1), .val (.int p2), .val (.int p3), .val (.int p4), .val (.int (0 : Int32)), .val (.int (p1 &&& (3 : Int32))), .val (.int ((p2 &&& (65535 : Int32)).toUInt32.toUInt16.toUInt32.toInt32)), .val (.int ((p3 &&& (65535 : Int32)).toUInt32.toUInt16.toUInt32.toInt32)), .val (.int ((p4 &&& (65535 : Int32)).toUInt32.toUInt16.toUInt32.toInt32)), .val (.ref xs_), .unset, .unset] [(.ref xs_), (.ref b13), (.ref b13)]))
      refine Gl.callI X13 hx hZ (y := (⟨"com/example/pathstone/pathstone/Tree$Node", "<init>", "(Ljava/lang/String;)V"⟩ : MethodName)) rfl hown (w30 hw) (w31 hw) (w29 hw) (w32 hw) (desc_ne (by decide)) (rm := { frames := 4, cells := 1, slots := 3, locals := 50 }) (b := b13) (argsL := [(.ref xs_)]) (rest := [(.ref b13)]) (rmN l Z a0 hw _ b13 ad (.ref xs_) n0 rfl Sd A13 F13_children F13_length F13_name Gb13 O13) 1 (by decide) (by decide) (by decide) (by decide) e13 (pc := 60) (Ls := #[.val (.int p1), .val (.int p2), .val (.int p3), .val (.int p4), .val (.int (0 : Int32)), .val (.int (p1 &&& (3 : Int32))), .val (.int ((p2 &&& (65535 : Int32)).toUInt32.toUInt16.toUInt32.toInt32)), .val (.int ((p3 &&& (65535 : Int32)).toUInt32.toUInt16.toUInt32.toInt32)), .val (.int ((p4 &&& (65535 : Int32)).toUInt32.toUInt16.toUInt32.toInt32)), .val (.ref xs_), .unset, .unset]) (st := [(.ref xs_), (.ref b13), (.ref b13)]) (by rw [hml]; rfl) pd_16 rfl rfl (Nat.le_of_eq rfl) (hb hby at_60) ?_
      intro v17 T17 L17 X17 hQ17
      obtain ⟨rfl, Nq17, Kq17, Fq17⟩ := hQ17
      have N17 := Fr.app N2 Nq17
      have ec18 := ec14.keep Kq17
      have fc19 := fc15.keep Kq17 (fun q => ne_xs__b13 (List.mem_singleton.mp q))
      have vc20 := vc16.keep Kq17 (fun q => ne_ts__b13 (List.mem_singleton.mp q))
      have ec21 := A13.keep Kq17
      have O17 := O13.keep Kq17 (allS Gb13 all0)
      have K17 := K13.trans Kq17 (by intro x hx'; cases List.mem_singleton.mp hx'; exact Or.inr Jb13)
      have hk17 := Nat.le_trans hk13 Kq17.1
      show Gl p e below _ (T17.setTop (mkF m 63 #[.val (.int p1), .val (.int p2), .val (.int p3), .val (.int p4), .val (.int (0 : Int32)), .val (.int (p1 &&& (3 : Int32))), .val (.int ((p2 &&& (65535 : Int32)).toUInt32.toUInt16.toUInt32.toInt32)), .val (.int ((p3 &&& (65535 : Int32)).toUInt32.toUInt16.toUInt32.toInt32)), .val (.int ((p4 &&& (65535 : Int32)).toUInt32.toUInt16.toUInt32.toInt32)), .val (.ref xs_), .unset, .unset] [(.ref b13)]))
      refine Gl.of (fun _ kq_ => XS.astore X17.here hx rfl (hb hby at_63) rfl rfl (l' := #[.val (.int p1), .val (.int p2), .val (.int p3), .val (.int p4), .val (.int (0 : Int32)), .val (.int (p1 &&& (3 : Int32))), .val (.int ((p2 &&& (65535 : Int32)).toUInt32.toUInt16.toUInt32.toInt32)), .val (.int ((p3 &&& (65535 : Int32)).toUInt32.toUInt16.toUInt32.toInt32)), .val (.int ((p4 &&& (65535 : Int32)).toUInt32.toUInt16.toUInt32.toInt32)), .val (.ref xs_), .val (.ref b13), .unset]) rfl kq_) ?_
      show Gl p e below _ (T17.setTop (mkF m 65 #[.val (.int p1), .val (.int p2), .val (.int p3), .val (.int p4), .val (.int (0 : Int32)), .val (.int (p1 &&& (3 : Int32))), .val (.int ((p2 &&& (65535 : Int32)).toUInt32.toUInt16.toUInt32.toInt32)), .val (.int ((p3 &&& (65535 : Int32)).toUInt32.toUInt16.toUInt32.toInt32)), .val (.int ((p4 &&& (65535 : Int32)).toUInt32.toUInt16.toUInt32.toInt32)), .val (.ref xs_), .val (.ref b13), .unset] []))
      refine Gl.of (fun _ kq_ => XS.iload X17.here hx rfl (hb hby at_65) rfl kq_) ?_
      show Gl p e below _ (T17.setTop (mkF m 67 #[.val (.int p1), .val (.int p2), .val (.int p3), .val (.int p4), .val (.int (0 : Int32)), .val (.int (p1 &&& (3 : Int32))), .val (.int ((p2 &&& (65535 : Int32)).toUInt32.toUInt16.toUInt32.toInt32)), .val (.int ((p3 &&& (65535 : Int32)).toUInt32.toUInt16.toUInt32.toInt32)), .val (.int ((p4 &&& (65535 : Int32)).toUInt32.toUInt16.toUInt32.toInt32)), .val (.ref xs_), .val (.ref b13), .unset] [(.int (0 : Int32))]))
      refine Gl.of (fun _ kq_ => XS.ifNo X17.here hx rfl (hb hby at_67) rfl ((if0 _ _).trans (teq (by decide : (0 : Int32) = (0 : Int32))).2) kq_) ?_
      show Gl p e below _ (T17.setTop (mkF m 70 #[.val (.int p1), .val (.int p2), .val (.int p3), .val (.int p4), .val (.int (0 : Int32)), .val (.int (p1 &&& (3 : Int32))), .val (.int ((p2 &&& (65535 : Int32)).toUInt32.toUInt16.toUInt32.toInt32)), .val (.int ((p3 &&& (65535 : Int32)).toUInt32.toUInt16.toUInt32.toInt32)), .val (.int ((p4 &&& (65535 : Int32)).toUInt32.toUInt16.toUInt32.toInt32)), .val (.ref xs_), .val (.ref b13), .unset] []))
      refine Gl.of (fun _ kq_ => XS.iload X17.here hx rfl (hb hby at_70) rfl kq_) ?_
      show Gl p e below _ (T17.setTop (mkF m 72 #[.val (.int p1), .val (.int p2), .val (.int p3), .val (.int p4), .val (.int (0 : Int32)), .val (.int (p1 &&& (3 : Int32))), .val (.int ((p2 &&& (65535 : Int32)).toUInt32.toUInt16.toUInt32.toInt32)), .val (.int ((p3 &&& (65535 : Int32)).toUInt32.toUInt16.toUInt32.toInt32)), .val (.int ((p4 &&& (65535 : Int32)).toUInt32.toUInt16.toUInt32.toInt32)), .val (.ref xs_), .val (.ref b13), .unset] [(.int (p1 &&& (3 : Int32)))]))
      refine Gl.of (fun _ kq_ => XS.ifYes X17.here hx rfl (pc0 := 72) (pc' := 79) rfl (hb hby at_72) rfl ((if0 _ _).trans (feq hk_).2) (by decide) (by decide) kq_) ?_
      show Gl p e below _ (T17.setTop (mkF m 79 #[.val (.int p1), .val (.int p2), .val (.int p3), .val (.int p4), .val (.int (0 : Int32)), .val (.int (p1 &&& (3 : Int32))), .val (.int ((p2 &&& (65535 : Int32)).toUInt32.toUInt16.toUInt32.toInt32)), .val (.int ((p3 &&& (65535 : Int32)).toUInt32.toUInt16.toUInt32.toInt32)), .val (.int ((p4 &&& (65535 : Int32)).toUInt32.toUInt16.toUInt32.toInt32)), .val (.ref xs_), .val (.ref b13), .unset] []))
      refine Gl.of (fun _ kq_ => XS.iconst X17.here hx rfl (hb hby at_79) kq_) ?_
      show Gl p e below _ (T17.setTop (mkF m 80 #[.val (.int p1), .val (.int p2), .val (.int p3), .val (.int p4), .val (.int (0 : Int32)), .val (.int (p1 &&& (3 : Int32))), .val (.int ((p2 &&& (65535 : Int32)).toUInt32.toUInt16.toUInt32.toInt32)), .val (.int ((p3 &&& (65535 : Int32)).toUInt32.toUInt16.toUInt32.toInt32)), .val (.int ((p4 &&& (65535 : Int32)).toUInt32.toUInt16.toUInt32.toInt32)), .val (.ref xs_), .val (.ref b13), .unset] [(.int (0 : Int32))]))
      refine Gl.of (fun _ kq_ => XS.istore X17.here hx rfl (hb hby at_80) rfl (l' := #[.val (.int p1), .val (.int p2), .val (.int p3), .val (.int p4), .val (.int (0 : Int32)), .val (.int (p1 &&& (3 : Int32))), .val (.int ((p2 &&& (65535 : Int32)).toUInt32.toUInt16.toUInt32.toInt32)), .val (.int ((p3 &&& (65535 : Int32)).toUInt32.toUInt16.toUInt32.toInt32)), .val (.int ((p4 &&& (65535 : Int32)).toUInt32.toUInt16.toUInt32.toInt32)), .val (.ref xs_), .val (.ref b13), .val (.int (0 : Int32))]) rfl kq_) ?_
      show Gl p e below _ (T17.setTop (mkF m 82 #[.val (.int p1), .val (.int p2), .val (.int p3), .val (.int p4), .val (.int (0 : Int32)), .val (.int (p1 &&& (3 : Int32))), .val (.int ((p2 &&& (65535 : Int32)).toUInt32.toUInt16.toUInt32.toInt32)), .val (.int ((p3 &&& (65535 : Int32)).toUInt32.toUInt16.toUInt32.toInt32)), .val (.int ((p4 &&& (65535 : Int32)).toUInt32.toUInt16.toUInt32.toInt32)), .val (.ref xs_), .val (.ref b13), .val (.int (0 : Int32))] []))
      refine Gl.of (fun _ kq_ => XS.aload X17.here hx rfl (hb hby at_82) rfl rfl kq_) ?_
      show Gl p e below _ (T17.setTop (mkF m 84 #[.val (.int p1), .val (.int p2), .val (.int p3), .val (.int p4), .val (.int (0 : Int32)), .val (.int (p1 &&& (3 : Int32))), .val (.int ((p2 &&& (65535 : Int32)).toUInt32.toUInt16.toUInt32.toInt32)), .val (.int ((p3 &&& (65535 : Int32)).toUInt32.toUInt16.toUInt32.toInt32)), .val (.int ((p4 &&& (65535 : Int32)).toUInt32.toUInt16.toUInt32.toInt32)), .val (.ref xs_), .val (.ref b13), .val (.int (0 : Int32))] [(.ref b13)]))
      refine Gl.callV0 X17 hx hZ (y := (⟨"com/example/pathstone/pathstone/Tree$Node", "isUnnamed", "()Z"⟩ : MethodName)) (z := (⟨"com/example/pathstone/pathstone/Tree$Node", "isUnnamed", "()Z"⟩ : MethodName)) hown (w65 hw) (w66 hw) (notFace_of_selects (args := #[]) (mvT hZ (w68 hw))) (w68 hw) (w67 hw) (w69 hw) (w29 hw) (desc_ne (by decide)) (b := b13) (argsL := []) (rest := []) ec21 (rmU0 l Z a0 hw _ b13 xs_ ts_ ks_ zs_ vs_ Fq17 ec18 fc19 vc20 hz_) 0 (by decide) (by decide) rfl (pc := 84) (Ls := #[.val (.int p1), .val (.int p2), .val (.int p3), .val (.int p4), .val (.int (0 : Int32)), .val (.int (p1 &&& (3 : Int32))), .val (.int ((p2 &&& (65535 : Int32)).toUInt32.toUInt16.toUInt32.toInt32)), .val (.int ((p3 &&& (65535 : Int32)).toUInt32.toUInt16.toUInt32.toInt32)), .val (.int ((p4 &&& (65535 : Int32)).toUInt32.toUInt16.toUInt32.toInt32)), .val (.ref xs_), .val (.ref b13), .val (.int (0 : Int32))]) (st := [(.ref b13)]) (by rw [hml]; rfl) pd_14 rfl rfl (Nat.le_of_eq rfl) (hb hby at_84) (by decide) (by decide) ?_
      intro v22 T22 X22 e22 hv22
      subst hv22
      show Gl p e below _ (T22.setTop (mkF m 87 #[.val (.int p1), .val (.int p2), .val (.int p3), .val (.int p4), .val (.int (0 : Int32)), .val (.int (p1 &&& (3 : Int32))), .val (.int ((p2 &&& (65535 : Int32)).toUInt32.toUInt16.toUInt32.toInt32)), .val (.int ((p3 &&& (65535 : Int32)).toUInt32.toUInt16.toUInt32.toInt32)), .val (.int ((p4 &&& (65535 : Int32)).toUInt32.toUInt16.toUInt32.toInt32)), .val (.ref xs_), .val (.ref b13), .val (.int (0 : Int32))] [(.int (0 : Int32))]))
      refine Gl.of (fun _ kq_ => XS.iload X22.here hx rfl (hb hby at_87) rfl kq_) ?_
      show Gl p e below _ (T22.setTop (mkF m 89 #[.val (.int p1), .val (.int p2), .val (.int p3), .val (.int p4), .val (.int (0 : Int32)), .val (.int (p1 &&& (3 : Int32))), .val (.int ((p2 &&& (65535 : Int32)).toUInt32.toUInt16.toUInt32.toInt32)), .val (.int ((p3 &&& (65535 : Int32)).toUInt32.toUInt16.toUInt32.toInt32)), .val (.int ((p4 &&& (65535 : Int32)).toUInt32.toUInt16.toUInt32.toInt32)), .val (.ref xs_), .val (.ref b13), .val (.int (0 : Int32))] [(.int (0 : Int32)), (.int (0 : Int32))]))
      refine Gl.of (fun _ kq_ => XS.icmpNo X22.here hx rfl (hb hby at_89) rfl (teq (by decide : (0 : Int32) = (0 : Int32))).2 kq_) ?_
      show Gl p e below _ (T22.setTop (mkF m 92 #[.val (.int p1), .val (.int p2), .val (.int p3), .val (.int p4), .val (.int (0 : Int32)), .val (.int (p1 &&& (3 : Int32))), .val (.int ((p2 &&& (65535 : Int32)).toUInt32.toUInt16.toUInt32.toInt32)), .val (.int ((p3 &&& (65535 : Int32)).toUInt32.toUInt16.toUInt32.toInt32)), .val (.int ((p4 &&& (65535 : Int32)).toUInt32.toUInt16.toUInt32.toInt32)), .val (.ref xs_), .val (.ref b13), .val (.int (0 : Int32))] []))
      refine Gl.of (fun _ kq_ => XS.iconst X22.here hx rfl (hb hby at_92) kq_) ?_
      show Gl p e below _ (T22.setTop (mkF m 93 #[.val (.int p1), .val (.int p2), .val (.int p3), .val (.int p4), .val (.int (0 : Int32)), .val (.int (p1 &&& (3 : Int32))), .val (.int ((p2 &&& (65535 : Int32)).toUInt32.toUInt16.toUInt32.toInt32)), .val (.int ((p3 &&& (65535 : Int32)).toUInt32.toUInt16.toUInt32.toInt32)), .val (.int ((p4 &&& (65535 : Int32)).toUInt32.toUInt16.toUInt32.toInt32)), .val (.ref xs_), .val (.ref b13), .val (.int (0 : Int32))] [(.int (1 : Int32))]))
      refine Gl.of (fun _ kq_ => XS.goto X22.here hx rfl (pc0 := 93) (pc' := 97) rfl (hb hby at_93) (by decide) (by decide) kq_) ?_
      show Gl p e below _ (T22.setTop (mkF m 97 #[.val (.int p1), .val (.int p2), .val (.int p3), .val (.int p4), .val (.int (0 : Int32)), .val (.int (p1 &&& (3 : Int32))), .val (.int ((p2 &&& (65535 : Int32)).toUInt32.toUInt16.toUInt32.toInt32)), .val (.int ((p3 &&& (65535 : Int32)).toUInt32.toUInt16.toUInt32.toInt32)), .val (.int ((p4 &&& (65535 : Int32)).toUInt32.toUInt16.toUInt32.toInt32)), .val (.ref xs_), .val (.ref b13), .val (.int (0 : Int32))] [(.int (1 : Int32))]))
      exact Gl.retNW X22 hx hlk hret (by simp) (hb hby at_97) e22 (⟨rfl, N17⟩) hS2 hk17 (by decide) (by decide)
  · refine Gl.of (fun _ kq_ => XS.ifNo X0.here hx rfl (hb hby at_3) rfl ((if0 _ _).trans (feq hc3_1).1) kq_) ?_
    show Gl p e below _ (s₁.setTop (mkF m 6 #[.val (.int p1), .val (.int p2), .val (.int p3), .val (.int p4), .unset, .unset, .unset, .unset, .unset, .unset, .unset, .unset] []))
    refine Gl.of (fun _ kq_ => XS.iconst X0.here hx rfl (hb hby at_6) kq_) ?_
    show Gl p e below _ (s₁.setTop (mkF m 7 #[.val (.int p1), .val (.int p2), .val (.int p3), .val (.int p4), .unset, .unset, .unset, .unset, .unset, .unset, .unset, .unset] [(.int (1 : Int32))]))
    refine Gl.of (fun _ kq_ => XS.goto X0.here hx rfl (pc0 := 7) (pc' := 11) rfl (hb hby at_7) (by decide) (by decide) kq_) ?_
    show Gl p e below _ (s₁.setTop (mkF m 11 #[.val (.int p1), .val (.int p2), .val (.int p3), .val (.int p4), .unset, .unset, .unset, .unset, .unset, .unset, .unset, .unset] [(.int (1 : Int32))]))
    refine Gl.of (fun _ kq_ => XS.istore X0.here hx rfl (hb hby at_11) rfl (l' := #[.val (.int p1), .val (.int p2), .val (.int p3), .val (.int p4), .val (.int (1 : Int32)), .unset, .unset, .unset, .unset, .unset, .unset, .unset]) rfl kq_) ?_
    show Gl p e below _ (s₁.setTop (mkF m 13 #[.val (.int p1), .val (.int p2), .val (.int p3), .val (.int p4), .val (.int (1 : Int32)), .unset, .unset, .unset, .unset, .unset, .unset, .unset] []))
    refine Gl.of (fun _ kq_ => XS.iloadN X0.here hx rfl (hb hby at_13) rfl kq_) ?_
    show Gl p e below _ (s₁.setTop (mkF m 14 #[.val (.int p1), .val (.int p2), .val (.int p3), .val (.int p4), .val (.int (1 : Int32)), .unset, .unset, .unset, .unset, .unset, .unset, .unset] [(.int p1)]))
    refine Gl.of (fun _ kq_ => XS.iconst X0.here hx rfl (hb hby at_14) kq_) ?_
    show Gl p e below _ (s₁.setTop (mkF m 15 #[.val (.int p1), .val (.int p2), .val (.int p3), .val (.int p4), .val (.int (1 : Int32)), .unset, .unset, .unset, .unset, .unset, .unset, .unset] [(.int (3 : Int32)), (.int p1)]))
    refine Gl.of (fun _ kq_ => XS.iand X0.here hx rfl (hb hby at_15) rfl kq_) ?_
    show Gl p e below _ (s₁.setTop (mkF m 16 #[.val (.int p1), .val (.int p2), .val (.int p3), .val (.int p4), .val (.int (1 : Int32)), .unset, .unset, .unset, .unset, .unset, .unset, .unset] [(.int (p1 &&& (3 : Int32)))]))
    refine Gl.of (fun _ kq_ => XS.istore X0.here hx rfl (hb hby at_16) rfl (l' := #[.val (.int p1), .val (.int p2), .val (.int p3), .val (.int p4), .val (.int (1 : Int32)), .val (.int (p1 &&& (3 : Int32))), .unset, .unset, .unset, .unset, .unset, .unset]) rfl kq_) ?_
    show Gl p e below _ (s₁.setTop (mkF m 18 #[.val (.int p1), .val (.int p2), .val (.int p3), .val (.int p4), .val (.int (1 : Int32)), .val (.int (p1 &&& (3 : Int32))), .unset, .unset, .unset, .unset, .unset, .unset] []))
    refine Gl.of (fun _ kq_ => XS.iloadN X0.here hx rfl (hb hby at_18) rfl kq_) ?_
    show Gl p e below _ (s₁.setTop (mkF m 19 #[.val (.int p1), .val (.int p2), .val (.int p3), .val (.int p4), .val (.int (1 : Int32)), .val (.int (p1 &&& (3 : Int32))), .unset, .unset, .unset, .unset, .unset, .unset] [(.int p2)]))
    refine Gl.of (fun _ kq_ => X0.ldcInt hx hown (mvT hZ (w0 hw)) (g := (mkF m 19 #[.val (.int p1), .val (.int p2), .val (.int p3), .val (.int p4), .val (.int (1 : Int32)), .val (.int (p1 &&& (3 : Int32))), .unset, .unset, .unset, .unset, .unset, .unset] [(.int p2)])) rfl (hb hby at_19) _ kq_) ?_
    show Gl p e below _ (s₁.setTop (mkF m 21 #[.val (.int p1), .val (.int p2), .val (.int p3), .val (.int p4), .val (.int (1 : Int32)), .val (.int (p1 &&& (3 : Int32))), .unset, .unset, .unset, .unset, .unset, .unset] [(.int (65535 : Int32)), (.int p2)]))
    refine Gl.of (fun _ kq_ => XS.iand X0.here hx rfl (hb hby at_21) rfl kq_) ?_
    show Gl p e below _ (s₁.setTop (mkF m 22 #[.val (.int p1), .val (.int p2), .val (.int p3), .val (.int p4), .val (.int (1 : Int32)), .val (.int (p1 &&& (3 : Int32))), .unset, .unset, .unset, .unset, .unset, .unset] [(.int (p2 &&& (65535 : Int32)))]))
    refine Gl.of (fun _ kq_ => XS.i2c X0.here hx rfl (hb hby at_22) rfl kq_) ?_
    show Gl p e below _ (s₁.setTop (mkF m 23 #[.val (.int p1), .val (.int p2), .val (.int p3), .val (.int p4), .val (.int (1 : Int32)), .val (.int (p1 &&& (3 : Int32))), .unset, .unset, .unset, .unset, .unset, .unset] [(.int ((p2 &&& (65535 : Int32)).toUInt32.toUInt16.toUInt32.toInt32))]))
    refine Gl.of (fun _ kq_ => XS.istore X0.here hx rfl (hb hby at_23) rfl (l' := #[.val (.int p1), .val (.int p2), .val (.int p3), .val (.int p4), .val (.int (1 : Int32)), .val (.int (p1 &&& (3 : Int32))), .val (.int ((p2 &&& (65535 : Int32)).toUInt32.toUInt16.toUInt32.toInt32)), .unset, .unset, .unset, .unset, .unset]) rfl kq_) ?_
    show Gl p e below _ (s₁.setTop (mkF m 25 #[.val (.int p1), .val (.int p2), .val (.int p3), .val (.int p4), .val (.int (1 : Int32)), .val (.int (p1 &&& (3 : Int32))), .val (.int ((p2 &&& (65535 : Int32)).toUInt32.toUInt16.toUInt32.toInt32)), .unset, .unset, .unset, .unset, .unset] []))
    refine Gl.of (fun _ kq_ => XS.iloadN X0.here hx rfl (hb hby at_25) rfl kq_) ?_
    show Gl p e below _ (s₁.setTop (mkF m 26 #[.val (.int p1), .val (.int p2), .val (.int p3), .val (.int p4), .val (.int (1 : Int32)), .val (.int (p1 &&& (3 : Int32))), .val (.int ((p2 &&& (65535 : Int32)).toUInt32.toUInt16.toUInt32.toInt32)), .unset, .unset, .unset, .unset, .unset] [(.int p3)]))
    refine Gl.of (fun _ kq_ => X0.ldcInt hx hown (mvT hZ (w0 hw)) (g := (mkF m 26 #[.val (.int p1), .val (.int p2), .val (.int p3), .val (.int p4), .val (.int (1 : Int32)), .val (.int (p1 &&& (3 : Int32))), .val (.int ((p2 &&& (65535 : Int32)).toUInt32.toUInt16.toUInt32.toInt32)), .unset, .unset, .unset, .unset, .unset] [(.int p3)])) rfl (hb hby at_26) _ kq_) ?_
    show Gl p e below _ (s₁.setTop (mkF m 28 #[.val (.int p1), .val (.int p2), .val (.int p3), .val (.int p4), .val (.int (1 : Int32)), .val (.int (p1 &&& (3 : Int32))), .val (.int ((p2 &&& (65535 : Int32)).toUInt32.toUInt16.toUInt32.toInt32)), .unset, .unset, .unset, .unset, .unset] [(.int (65535 : Int32)), (.int p3)]))
    refine Gl.of (fun _ kq_ => XS.iand X0.here hx rfl (hb hby at_28) rfl kq_) ?_
    show Gl p e below _ (s₁.setTop (mkF m 29 #[.val (.int p1), .val (.int p2), .val (.int p3), .val (.int p4), .val (.int (1 : Int32)), .val (.int (p1 &&& (3 : Int32))), .val (.int ((p2 &&& (65535 : Int32)).toUInt32.toUInt16.toUInt32.toInt32)), .unset, .unset, .unset, .unset, .unset] [(.int (p3 &&& (65535 : Int32)))]))
    refine Gl.of (fun _ kq_ => XS.i2c X0.here hx rfl (hb hby at_29) rfl kq_) ?_
    show Gl p e below _ (s₁.setTop (mkF m 30 #[.val (.int p1), .val (.int p2), .val (.int p3), .val (.int p4), .val (.int (1 : Int32)), .val (.int (p1 &&& (3 : Int32))), .val (.int ((p2 &&& (65535 : Int32)).toUInt32.toUInt16.toUInt32.toInt32)), .unset, .unset, .unset, .unset, .unset] [(.int ((p3 &&& (65535 : Int32)).toUInt32.toUInt16.toUInt32.toInt32))]))
    refine Gl.of (fun _ kq_ => XS.istore X0.here hx rfl (hb hby at_30) rfl (l' := #[.val (.int p1), .val (.int p2), .val (.int p3), .val (.int p4), .val (.int (1 : Int32)), .val (.int (p1 &&& (3 : Int32))), .val (.int ((p2 &&& (65535 : Int32)).toUInt32.toUInt16.toUInt32.toInt32)), .val (.int ((p3 &&& (65535 : Int32)).toUInt32.toUInt16.toUInt32.toInt32)), .unset, .unset, .unset, .unset]) rfl kq_) ?_
    show Gl p e below _ (s₁.setTop (mkF m 32 #[.val (.int p1), .val (.int p2), .val (.int p3), .val (.int p4), .val (.int (1 : Int32)), .val (.int (p1 &&& (3 : Int32))), .val (.int ((p2 &&& (65535 : Int32)).toUInt32.toUInt16.toUInt32.toInt32)), .val (.int ((p3 &&& (65535 : Int32)).toUInt32.toUInt16.toUInt32.toInt32)), .unset, .unset, .unset, .unset] []))
    refine Gl.of (fun _ kq_ => XS.iloadN X0.here hx rfl (hb hby at_32) rfl kq_) ?_
    show Gl p e below _ (s₁.setTop (mkF m 33 #[.val (.int p1), .val (.int p2), .val (.int p3), .val (.int p4), .val (.int (1 : Int32)), .val (.int (p1 &&& (3 : Int32))), .val (.int ((p2 &&& (65535 : Int32)).toUInt32.toUInt16.toUInt32.toInt32)), .val (.int ((p3 &&& (65535 : Int32)).toUInt32.toUInt16.toUInt32.toInt32)), .unset, .unset, .unset, .unset] [(.int p4)]))
    refine Gl.of (fun _ kq_ => X0.ldcInt hx hown (mvT hZ (w0 hw)) (g := (mkF m 33 #[.val (.int p1), .val (.int p2), .val (.int p3), .val (.int p4), .val (.int (1 : Int32)), .val (.int (p1 &&& (3 : Int32))), .val (.int ((p2 &&& (65535 : Int32)).toUInt32.toUInt16.toUInt32.toInt32)), .val (.int ((p3 &&& (65535 : Int32)).toUInt32.toUInt16.toUInt32.toInt32)), .unset, .unset, .unset, .unset] [(.int p4)])) rfl (hb hby at_33) _ kq_) ?_
    show Gl p e below _ (s₁.setTop (mkF m 35 #[.val (.int p1), .val (.int p2), .val (.int p3), .val (.int p4), .val (.int (1 : Int32)), .val (.int (p1 &&& (3 : Int32))), .val (.int ((p2 &&& (65535 : Int32)).toUInt32.toUInt16.toUInt32.toInt32)), .val (.int ((p3 &&& (65535 : Int32)).toUInt32.toUInt16.toUInt32.toInt32)), .unset, .unset, .unset, .unset] [(.int (65535 : Int32)), (.int p4)]))
    refine Gl.of (fun _ kq_ => XS.iand X0.here hx rfl (hb hby at_35) rfl kq_) ?_
    show Gl p e below _ (s₁.setTop (mkF m 36 #[.val (.int p1), .val (.int p2), .val (.int p3), .val (.int p4), .val (.int (1 : Int32)), .val (.int (p1 &&& (3 : Int32))), .val (.int ((p2 &&& (65535 : Int32)).toUInt32.toUInt16.toUInt32.toInt32)), .val (.int ((p3 &&& (65535 : Int32)).toUInt32.toUInt16.toUInt32.toInt32)), .unset, .unset, .unset, .unset] [(.int (p4 &&& (65535 : Int32)))]))
    refine Gl.of (fun _ kq_ => XS.i2c X0.here hx rfl (hb hby at_36) rfl kq_) ?_
    show Gl p e below _ (s₁.setTop (mkF m 37 #[.val (.int p1), .val (.int p2), .val (.int p3), .val (.int p4), .val (.int (1 : Int32)), .val (.int (p1 &&& (3 : Int32))), .val (.int ((p2 &&& (65535 : Int32)).toUInt32.toUInt16.toUInt32.toInt32)), .val (.int ((p3 &&& (65535 : Int32)).toUInt32.toUInt16.toUInt32.toInt32)), .unset, .unset, .unset, .unset] [(.int ((p4 &&& (65535 : Int32)).toUInt32.toUInt16.toUInt32.toInt32))]))
    refine Gl.of (fun _ kq_ => XS.istore X0.here hx rfl (hb hby at_37) rfl (l' := #[.val (.int p1), .val (.int p2), .val (.int p3), .val (.int p4), .val (.int (1 : Int32)), .val (.int (p1 &&& (3 : Int32))), .val (.int ((p2 &&& (65535 : Int32)).toUInt32.toUInt16.toUInt32.toInt32)), .val (.int ((p3 &&& (65535 : Int32)).toUInt32.toUInt16.toUInt32.toInt32)), .val (.int ((p4 &&& (65535 : Int32)).toUInt32.toUInt16.toUInt32.toInt32)), .unset, .unset, .unset]) rfl kq_) ?_
    show Gl p e below _ (s₁.setTop (mkF m 39 #[.val (.int p1), .val (.int p2), .val (.int p3), .val (.int p4), .val (.int (1 : Int32)), .val (.int (p1 &&& (3 : Int32))), .val (.int ((p2 &&& (65535 : Int32)).toUInt32.toUInt16.toUInt32.toInt32)), .val (.int ((p3 &&& (65535 : Int32)).toUInt32.toUInt16.toUInt32.toInt32)), .val (.int ((p4 &&& (65535 : Int32)).toUInt32.toUInt16.toUInt32.toInt32)), .unset, .unset, .unset] []))
    refine Gl.of (fun _ kq_ => XS.iload X0.here hx rfl (hb hby at_39) rfl kq_) ?_
    show Gl p e below _ (s₁.setTop (mkF m 41 #[.val (.int p1), .val (.int p2), .val (.int p3), .val (.int p4), .val (.int (1 : Int32)), .val (.int (p1 &&& (3 : Int32))), .val (.int ((p2 &&& (65535 : Int32)).toUInt32.toUInt16.toUInt32.toInt32)), .val (.int ((p3 &&& (65535 : Int32)).toUInt32.toUInt16.toUInt32.toInt32)), .val (.int ((p4 &&& (65535 : Int32)).toUInt32.toUInt16.toUInt32.toInt32)), .unset, .unset, .unset] [(.int (1 : Int32))]))
    refine Gl.of (fun _ kq_ => XS.iload X0.here hx rfl (hb hby at_41) rfl kq_) ?_
    show Gl p e below _ (s₁.setTop (mkF m 43 #[.val (.int p1), .val (.int p2), .val (.int p3), .val (.int p4), .val (.int (1 : Int32)), .val (.int (p1 &&& (3 : Int32))), .val (.int ((p2 &&& (65535 : Int32)).toUInt32.toUInt16.toUInt32.toInt32)), .val (.int ((p3 &&& (65535 : Int32)).toUInt32.toUInt16.toUInt32.toInt32)), .val (.int ((p4 &&& (65535 : Int32)).toUInt32.toUInt16.toUInt32.toInt32)), .unset, .unset, .unset] [(.int (p1 &&& (3 : Int32))), (.int (1 : Int32))]))
    refine Gl.of (fun _ kq_ => XS.iload X0.here hx rfl (hb hby at_43) rfl kq_) ?_
    show Gl p e below _ (s₁.setTop (mkF m 45 #[.val (.int p1), .val (.int p2), .val (.int p3), .val (.int p4), .val (.int (1 : Int32)), .val (.int (p1 &&& (3 : Int32))), .val (.int ((p2 &&& (65535 : Int32)).toUInt32.toUInt16.toUInt32.toInt32)), .val (.int ((p3 &&& (65535 : Int32)).toUInt32.toUInt16.toUInt32.toInt32)), .val (.int ((p4 &&& (65535 : Int32)).toUInt32.toUInt16.toUInt32.toInt32)), .unset, .unset, .unset] [(.int ((p2 &&& (65535 : Int32)).toUInt32.toUInt16.toUInt32.toInt32)), (.int (p1 &&& (3 : Int32))), (.int (1 : Int32))]))
    refine Gl.of (fun _ kq_ => XS.iload X0.here hx rfl (hb hby at_45) rfl kq_) ?_
    show Gl p e below _ (s₁.setTop (mkF m 47 #[.val (.int p1), .val (.int p2), .val (.int p3), .val (.int p4), .val (.int (1 : Int32)), .val (.int (p1 &&& (3 : Int32))), .val (.int ((p2 &&& (65535 : Int32)).toUInt32.toUInt16.toUInt32.toInt32)), .val (.int ((p3 &&& (65535 : Int32)).toUInt32.toUInt16.toUInt32.toInt32)), .val (.int ((p4 &&& (65535 : Int32)).toUInt32.toUInt16.toUInt32.toInt32)), .unset, .unset, .unset] [(.int ((p3 &&& (65535 : Int32)).toUInt32.toUInt16.toUInt32.toInt32)), (.int ((p2 &&& (65535 : Int32)).toUInt32.toUInt16.toUInt32.toInt32)), (.int (p1 &&& (3 : Int32))), (.int (1 : Int32))]))
    refine Gl.of (fun _ kq_ => XS.iload X0.here hx rfl (hb hby at_47) rfl kq_) ?_
    show Gl p e below _ (s₁.setTop (mkF m 49 #[.val (.int p1), .val (.int p2), .val (.int p3), .val (.int p4), .val (.int (1 : Int32)), .val (.int (p1 &&& (3 : Int32))), .val (.int ((p2 &&& (65535 : Int32)).toUInt32.toUInt16.toUInt32.toInt32)), .val (.int ((p3 &&& (65535 : Int32)).toUInt32.toUInt16.toUInt32.toInt32)), .val (.int ((p4 &&& (65535 : Int32)).toUInt32.toUInt16.toUInt32.toInt32)), .unset, .unset, .unset] [(.int ((p4 &&& (65535 : Int32)).toUInt32.toUInt16.toUInt32.toInt32)), (.int ((p3 &&& (65535 : Int32)).toUInt32.toUInt16.toUInt32.toInt32)), (.int ((p2 &&& (65535 : Int32)).toUInt32.toUInt16.toUInt32.toInt32)), (.int (p1 &&& (3 : Int32))), (.int (1 : Int32))]))
    refine Gl.callSE X0 hx hZ hS0 hk0 (own_el hw) hR0 (y := (⟨"com/example/pathstone/pathstone/NodeIsUnnamedPinLaw", "makeName", "(ZICCC)Ljava/lang/String;"⟩ : MethodName)) hown (w1 hw) (w2 hw) (w3 hw) (w4 hw) (desc_ne (by decide)) (rm := { frames := 6, cells := 4, slots := 24, locals := 100 }) (argsL := [(.int (1 : Int32)), (.int (p1 &&& (3 : Int32))), (.int ((p2 &&& (65535 : Int32)).toUInt32.toUInt16.toUInt32.toInt32)), (.int ((p3 &&& (65535 : Int32)).toUInt32.toUInt16.toUInt32.toInt32)), (.int ((p4 &&& (65535 : Int32)).toUInt32.toUInt16.toUInt32.toInt32))]) (rest := []) (rmM l Z a0 hw _ (1 : Int32) (p1 &&& (3 : Int32)) ((p2 &&& (65535 : Int32)).toUInt32.toUInt16.toUInt32.toInt32) ((p3 &&& (65535 : Int32)).toUInt32.toUInt16.toUInt32.toInt32) ((p4 &&& (65535 : Int32)).toUInt32.toUInt16.toUInt32.toInt32) cz n0 SC hcz Sa Sh Sl O0) 0 (by decide) (by decide) (by decide) (by decide) e0 (pc := 49) (Ls := #[.val (.int p1), .val (.int p2), .val (.int p3), .val (.int p4), .val (.int (1 : Int32)), .val (.int (p1 &&& (3 : Int32))), .val (.int ((p2 &&& (65535 : Int32)).toUInt32.toUInt16.toUInt32.toInt32)), .val (.int ((p3 &&& (65535 : Int32)).toUInt32.toUInt16.toUInt32.toInt32)), .val (.int ((p4 &&& (65535 : Int32)).toUInt32.toUInt16.toUInt32.toInt32)), .unset, .unset, .unset]) (st := [(.int ((p4 &&& (65535 : Int32)).toUInt32.toUInt16.toUInt32.toInt32)), (.int ((p3 &&& (65535 : Int32)).toUInt32.toUInt16.toUInt32.toInt32)), (.int ((p2 &&& (65535 : Int32)).toUInt32.toUInt16.toUInt32.toInt32)), (.int (p1 &&& (3 : Int32))), (.int (1 : Int32))]) (by rw [hml]; rfl) pd_15 rfl rfl (Nat.le_of_eq rfl) (hb hby at_49) ?_
    intro v23 T23 L23 X23 hS23 hZ hown hQ23
    obtain ⟨w23, rfl, Kq23, Nq23, nm23⟩ := hQ23
    have N23 := Fr.app (Fr.nil n0) Nq23
    have O23 := O0.keep Kq23 all0
    have K23 := K0.trans Kq23 (by intro x hx'; exact nomatch hx')
    have hk23 := Nat.le_trans hk0 Kq23.1
    rcases nm23 with ⟨hi_, rfl⟩ | ⟨hi_, xs_, ts_, ks_, zs_, vs_, rfl, Es_, Fs_, Vs_, ⟨hk_, hz_⟩ | ⟨hk_, hz_⟩⟩
    · show Gl p e below _ (T23.setTop (mkF m 52 #[.val (.int p1), .val (.int p2), .val (.int p3), .val (.int p4), .val (.int (1 : Int32)), .val (.int (p1 &&& (3 : Int32))), .val (.int ((p2 &&& (65535 : Int32)).toUInt32.toUInt16.toUInt32.toInt32)), .val (.int ((p3 &&& (65535 : Int32)).toUInt32.toUInt16.toUInt32.toInt32)), .val (.int ((p4 &&& (65535 : Int32)).toUInt32.toUInt16.toUInt32.toInt32)), .unset, .unset, .unset] [.null]))
      refine Gl.of (fun _ kq_ => XS.astore X23.here hx rfl (hb hby at_52) rfl rfl (l' := #[.val (.int p1), .val (.int p2), .val (.int p3), .val (.int p4), .val (.int (1 : Int32)), .val (.int (p1 &&& (3 : Int32))), .val (.int ((p2 &&& (65535 : Int32)).toUInt32.toUInt16.toUInt32.toInt32)), .val (.int ((p3 &&& (65535 : Int32)).toUInt32.toUInt16.toUInt32.toInt32)), .val (.int ((p4 &&& (65535 : Int32)).toUInt32.toUInt16.toUInt32.toInt32)), .val .null, .unset, .unset]) rfl kq_) ?_
      show Gl p e below _ (T23.setTop (mkF m 54 #[.val (.int p1), .val (.int p2), .val (.int p3), .val (.int p4), .val (.int (1 : Int32)), .val (.int (p1 &&& (3 : Int32))), .val (.int ((p2 &&& (65535 : Int32)).toUInt32.toUInt16.toUInt32.toInt32)), .val (.int ((p3 &&& (65535 : Int32)).toUInt32.toUInt16.toUInt32.toInt32)), .val (.int ((p4 &&& (65535 : Int32)).toUInt32.toUInt16.toUInt32.toInt32)), .val .null, .unset, .unset] []))
      obtain ⟨T24, h24, X24, e24, E24, A24, D24, -, st24⟩ := newO X23 hx hZ hown (w27 hw) (w28 hw) (w29 hw) rfl (g := (mkF m 54 #[.val (.int p1), .val (.int p2), .val (.int p3), .val (.int p4), .val (.int (1 : Int32)), .val (.int (p1 &&& (3 : Int32))), .val (.int ((p2 &&& (65535 : Int32)).toUInt32.toUInt16.toUInt32.toInt32)), .val (.int ((p3 &&& (65535 : Int32)).toUInt32.toUInt16.toUInt32.toInt32)), .val (.int ((p4 &&& (65535 : Int32)).toUInt32.toUInt16.toUInt32.toInt32)), .val .null, .unset, .unset] [])) rfl (hb hby at_54) (by decide) (by decide)
      obtain ⟨b24, g24⟩ : ∃ z, z = T23.heap.size := ⟨_, rfl⟩
      rw [← g24] at A24 D24 st24
      refine Gl.of st24 ?_
      have Gb24 : n0 ≤ b24 := Nat.le_trans (O23.1 ▸ O23.2.1) (Nat.le_of_eq g24.symm)
      have Jb24 : h0.size ≤ b24 := Nat.le_trans K23.1 (Nat.le_of_eq g24.symm)
      have O24 := O23.ext E24
      have K24 := K23.ext E24
      have hk24 := Nat.le_trans (Nat.le_refl _) E24.1
      have F24_children : Fld Z h24 b24 "com/example/pathstone/pathstone/Tree$Node" "children" "Ljava/util/List;" .null := D24 (Or.inr (w59 hw)) (ty := (.object "java/util/List")) (by decide)
      have F24_length : Fld Z h24 b24 "com/example/pathstone/pathstone/Tree$Node" "length" "D" (.double (0 : UInt64)) := D24 (Or.inl (w62 hw)) (ty := .double) (by decide)
      have F24_name : Fld Z h24 b24 "com/example/pathstone/pathstone/Tree$Node" "name" "Ljava/lang/String;" .null := D24 (Or.inr (w64 hw)) (ty := (.object "java/lang/String")) (by decide)
      show Gl p e below _ (T24.setTop (mkF m 57 #[.val (.int p1), .val (.int p2), .val (.int p3), .val (.int p4), .val (.int (1 : Int32)), .val (.int (p1 &&& (3 : Int32))), .val (.int ((p2 &&& (65535 : Int32)).toUInt32.toUInt16.toUInt32.toInt32)), .val (.int ((p3 &&& (65535 : Int32)).toUInt32.toUInt16.toUInt32.toInt32)), .val (.int ((p4 &&& (65535 : Int32)).toUInt32.toUInt16.toUInt32.toInt32)), .val .null, .unset, .unset] [(.ref b24)]))
      refine Gl.of (fun _ kq_ => XS.dup X24.here hx rfl (hb hby at_57) rfl rfl kq_) ?_
      show Gl p e below _ (T24.setTop (mkF m 58 #[.val (.int p1), .val (.int p2), .val (.int p3), .val (.int p4), .val (.int (1 : Int32)), .val (.int (p1 &&& (3 : Int32))), .val (.int ((p2 &&& (65535 : Int32)).toUInt32.toUInt16.toUInt32.toInt32)), .val (.int ((p3 &&& (65535 : Int32)).toUInt32.toUInt16.toUInt32.toInt32)), .val (.int ((p4 &&& (65535 : Int32)).toUInt32.toUInt16.toUInt32.toInt32)), .val .null, .unset, .unset] [(.ref b24), (.ref b24)]))
      refine Gl.of (fun _ kq_ => XS.aload X24.here hx rfl (hb hby at_58) rfl rfl kq_) ?_
      show Gl p e below _ (T24.setTop (mkF m 60 #[.val (.int p1), .val (.int p2), .val (.int p3), .val (.int p4), .val (.int (1 : Int32)), .val (.int (p1 &&& (3 : Int32))), .val (.int ((p2 &&& (65535 : Int32)).toUInt32.toUInt16.toUInt32.toInt32)), .val (.int ((p3 &&& (65535 : Int32)).toUInt32.toUInt16.toUInt32.toInt32)), .val (.int ((p4 &&& (65535 : Int32)).toUInt32.toUInt16.toUInt32.toInt32)), .val .null, .unset, .unset] [.null, (.ref b24), (.ref b24)]))
      refine Gl.callI X24 hx hZ (y := (⟨"com/example/pathstone/pathstone/Tree$Node", "<init>", "(Ljava/lang/String;)V"⟩ : MethodName)) rfl hown (w30 hw) (w31 hw) (w29 hw) (w32 hw) (desc_ne (by decide)) (rm := { frames := 4, cells := 1, slots := 3, locals := 50 }) (b := b24) (argsL := [.null]) (rest := [(.ref b24)]) (rmN l Z a0 hw _ b24 ad (.null) n0 rfl Sd A24 F24_children F24_length F24_name Gb24 O24) 1 (by decide) (by decide) (by decide) (by decide) e24 (pc := 60) (Ls := #[.val (.int p1), .val (.int p2), .val (.int p3), .val (.int p4), .val (.int (1 : Int32)), .val (.int (p1 &&& (3 : Int32))), .val (.int ((p2 &&& (65535 : Int32)).toUInt32.toUInt16.toUInt32.toInt32)), .val (.int ((p3 &&& (65535 : Int32)).toUInt32.toUInt16.toUInt32.toInt32)), .val (.int ((p4 &&& (65535 : Int32)).toUInt32.toUInt16.toUInt32.toInt32)), .val .null, .unset, .unset]) (st := [.null, (.ref b24), (.ref b24)]) (by rw [hml]; rfl) pd_16 rfl rfl (Nat.le_of_eq rfl) (hb hby at_60) ?_
      intro v25 T25 L25 X25 hQ25
      obtain ⟨rfl, Nq25, Kq25, Fq25⟩ := hQ25
      have N25 := Fr.app N23 Nq25
      have ec26 := A24.keep Kq25
      have O25 := O24.keep Kq25 (allS Gb24 all0)
      have K25 := K24.trans Kq25 (by intro x hx'; cases List.mem_singleton.mp hx'; exact Or.inr Jb24)
      have hk25 := Nat.le_trans hk24 Kq25.1
      show Gl p e below _ (T25.setTop (mkF m 63 #[.val (.int p1), .val (.int p2), .val (.int p3), .val (.int p4), .val (.int (1 : Int32)), .val (.int (p1 &&& (3 : Int32))), .val (.int ((p2 &&& (65535 : Int32)).toUInt32.toUInt16.toUInt32.toInt32)), .val (.int ((p3 &&& (65535 : Int32)).toUInt32.toUInt16.toUInt32.toInt32)), .val (.int ((p4 &&& (65535 : Int32)).toUInt32.toUInt16.toUInt32.toInt32)), .val .null, .unset, .unset] [(.ref b24)]))
      refine Gl.of (fun _ kq_ => XS.astore X25.here hx rfl (hb hby at_63) rfl rfl (l' := #[.val (.int p1), .val (.int p2), .val (.int p3), .val (.int p4), .val (.int (1 : Int32)), .val (.int (p1 &&& (3 : Int32))), .val (.int ((p2 &&& (65535 : Int32)).toUInt32.toUInt16.toUInt32.toInt32)), .val (.int ((p3 &&& (65535 : Int32)).toUInt32.toUInt16.toUInt32.toInt32)), .val (.int ((p4 &&& (65535 : Int32)).toUInt32.toUInt16.toUInt32.toInt32)), .val .null, .val (.ref b24), .unset]) rfl kq_) ?_
      show Gl p e below _ (T25.setTop (mkF m 65 #[.val (.int p1), .val (.int p2), .val (.int p3), .val (.int p4), .val (.int (1 : Int32)), .val (.int (p1 &&& (3 : Int32))), .val (.int ((p2 &&& (65535 : Int32)).toUInt32.toUInt16.toUInt32.toInt32)), .val (.int ((p3 &&& (65535 : Int32)).toUInt32.toUInt16.toUInt32.toInt32)), .val (.int ((p4 &&& (65535 : Int32)).toUInt32.toUInt16.toUInt32.toInt32)), .val .null, .val (.ref b24), .unset] []))
      refine Gl.of (fun _ kq_ => XS.iload X25.here hx rfl (hb hby at_65) rfl kq_) ?_
      show Gl p e below _ (T25.setTop (mkF m 67 #[.val (.int p1), .val (.int p2), .val (.int p3), .val (.int p4), .val (.int (1 : Int32)), .val (.int (p1 &&& (3 : Int32))), .val (.int ((p2 &&& (65535 : Int32)).toUInt32.toUInt16.toUInt32.toInt32)), .val (.int ((p3 &&& (65535 : Int32)).toUInt32.toUInt16.toUInt32.toInt32)), .val (.int ((p4 &&& (65535 : Int32)).toUInt32.toUInt16.toUInt32.toInt32)), .val .null, .val (.ref b24), .unset] [(.int (1 : Int32))]))
      refine Gl.of (fun _ kq_ => XS.ifYes X25.here hx rfl (pc0 := 67) (pc' := 75) rfl (hb hby at_67) rfl ((if0 _ _).trans (feq (by decide : ¬ ((1 : Int32) = (0 : Int32)))).2) (by decide) (by decide) kq_) ?_
      show Gl p e below _ (T25.setTop (mkF m 75 #[.val (.int p1), .val (.int p2), .val (.int p3), .val (.int p4), .val (.int (1 : Int32)), .val (.int (p1 &&& (3 : Int32))), .val (.int ((p2 &&& (65535 : Int32)).toUInt32.toUInt16.toUInt32.toInt32)), .val (.int ((p3 &&& (65535 : Int32)).toUInt32.toUInt16.toUInt32.toInt32)), .val (.int ((p4 &&& (65535 : Int32)).toUInt32.toUInt16.toUInt32.toInt32)), .val .null, .val (.ref b24), .unset] []))
      refine Gl.of (fun _ kq_ => XS.iconst X25.here hx rfl (hb hby at_75) kq_) ?_
      show Gl p e below _ (T25.setTop (mkF m 76 #[.val (.int p1), .val (.int p2), .val (.int p3), .val (.int p4), .val (.int (1 : Int32)), .val (.int (p1 &&& (3 : Int32))), .val (.int ((p2 &&& (65535 : Int32)).toUInt32.toUInt16.toUInt32.toInt32)), .val (.int ((p3 &&& (65535 : Int32)).toUInt32.toUInt16.toUInt32.toInt32)), .val (.int ((p4 &&& (65535 : Int32)).toUInt32.toUInt16.toUInt32.toInt32)), .val .null, .val (.ref b24), .unset] [(.int (1 : Int32))]))
      refine Gl.of (fun _ kq_ => XS.goto X25.here hx rfl (pc0 := 76) (pc' := 80) rfl (hb hby at_76) (by decide) (by decide) kq_) ?_
      show Gl p e below _ (T25.setTop (mkF m 80 #[.val (.int p1), .val (.int p2), .val (.int p3), .val (.int p4), .val (.int (1 : Int32)), .val (.int (p1 &&& (3 : Int32))), .val (.int ((p2 &&& (65535 : Int32)).toUInt32.toUInt16.toUInt32.toInt32)), .val (.int ((p3 &&& (65535 : Int32)).toUInt32.toUInt16.toUInt32.toInt32)), .val (.int ((p4 &&& (65535 : Int32)).toUInt32.toUInt16.toUInt32.toInt32)), .val .null, .val (.ref b24), .unset] [(.int (1 : Int32))]))
      refine Gl.of (fun _ kq_ => XS.istore X25.here hx rfl (hb hby at_80) rfl (l' := #[.val (.int p1), .val (.int p2), .val (.int p3), .val (.int p4), .val (.int (1 : Int32)), .val (.int (p1 &&& (3 : Int32))), .val (.int ((p2 &&& (65535 : Int32)).toUInt32.toUInt16.toUInt32.toInt32)), .val (.int ((p3 &&& (65535 : Int32)).toUInt32.toUInt16.toUInt32.toInt32)), .val (.int ((p4 &&& (65535 : Int32)).toUInt32.toUInt16.toUInt32.toInt32)), .val .null, .val (.ref b24), .val (.int (1 : Int32))]) rfl kq_) ?_
      show Gl p e below _ (T25.setTop (mkF m 82 #[.val (.int p1), .val (.int p2), .val (.int p3), .val (.int p4), .val (.int (1 : Int32)), .val (.int (p1 &&& (3 : Int32))), .val (.int ((p2 &&& (65535 : Int32)).toUInt32.toUInt16.toUInt32.toInt32)), .val (.int ((p3 &&& (65535 : Int32)).toUInt32.toUInt16.toUInt32.toInt32)), .val (.int ((p4 &&& (65535 : Int32)).toUInt32.toUInt16.toUInt32.toInt32)), .val .null, .val (.ref b24), .val (.int (1 : Int32))] []))
      refine Gl.of (fun _ kq_ => XS.aload X25.here hx rfl (hb hby at_82) rfl rfl kq_) ?_
      show Gl p e below _ (T25.setTop (mkF m 84 #[.val (.int p1), .val (.int p2), .val (.int p3), .val (.int p4), .val (.int (1 : Int32)), .val (.int (p1 &&& (3 : Int32))), .val (.int ((p2 &&& (65535 : Int32)).toUInt32.toUInt16.toUInt32.toInt32)), .val (.int ((p3 &&& (65535 : Int32)).toUInt32.toUInt16.toUInt32.toInt32)), .val (.int ((p4 &&& (65535 : Int32)).toUInt32.toUInt16.toUInt32.toInt32)), .val .null, .val (.ref b24), .val (.int (1 : Int32))] [(.ref b24)]))
      refine Gl.callV0 X25 hx hZ (y := (⟨"com/example/pathstone/pathstone/Tree$Node", "isUnnamed", "()Z"⟩ : MethodName)) (z := (⟨"com/example/pathstone/pathstone/Tree$Node", "isUnnamed", "()Z"⟩ : MethodName)) hown (w65 hw) (w66 hw) (notFace_of_selects (args := #[]) (mvT hZ (w68 hw))) (w68 hw) (w67 hw) (w69 hw) (w29 hw) (desc_ne (by decide)) (b := b24) (argsL := []) (rest := []) ec26 (rmUn l Z a0 hw _ b24 Fq25) 0 (by decide) (by decide) rfl (pc := 84) (Ls := #[.val (.int p1), .val (.int p2), .val (.int p3), .val (.int p4), .val (.int (1 : Int32)), .val (.int (p1 &&& (3 : Int32))), .val (.int ((p2 &&& (65535 : Int32)).toUInt32.toUInt16.toUInt32.toInt32)), .val (.int ((p3 &&& (65535 : Int32)).toUInt32.toUInt16.toUInt32.toInt32)), .val (.int ((p4 &&& (65535 : Int32)).toUInt32.toUInt16.toUInt32.toInt32)), .val .null, .val (.ref b24), .val (.int (1 : Int32))]) (st := [(.ref b24)]) (by rw [hml]; rfl) pd_14 rfl rfl (Nat.le_of_eq rfl) (hb hby at_84) (by decide) (by decide) ?_
      intro v27 T27 X27 e27 hv27
      subst hv27
      show Gl p e below _ (T27.setTop (mkF m 87 #[.val (.int p1), .val (.int p2), .val (.int p3), .val (.int p4), .val (.int (1 : Int32)), .val (.int (p1 &&& (3 : Int32))), .val (.int ((p2 &&& (65535 : Int32)).toUInt32.toUInt16.toUInt32.toInt32)), .val (.int ((p3 &&& (65535 : Int32)).toUInt32.toUInt16.toUInt32.toInt32)), .val (.int ((p4 &&& (65535 : Int32)).toUInt32.toUInt16.toUInt32.toInt32)), .val .null, .val (.ref b24), .val (.int (1 : Int32))] [(.int (1 : Int32))]))
      refine Gl.of (fun _ kq_ => XS.iload X27.here hx rfl (hb hby at_87) rfl kq_) ?_
      show Gl p e below _ (T27.setTop (mkF m 89 #[.val (.int p1), .val (.int p2), .val (.int p3), .val (.int p4), .val (.int (1 : Int32)), .val (.int (p1 &&& (3 : Int32))), .val (.int ((p2 &&& (65535 : Int32)).toUInt32.toUInt16.toUInt32.toInt32)), .val (.int ((p3 &&& (65535 : Int32)).toUInt32.toUInt16.toUInt32.toInt32)), .val (.int ((p4 &&& (65535 : Int32)).toUInt32.toUInt16.toUInt32.toInt32)), .val .null, .val (.ref b24), .val (.int (1 : Int32))] [(.int (1 : Int32)), (.int (1 : Int32))]))
      refine Gl.of (fun _ kq_ => XS.icmpNo X27.here hx rfl (hb hby at_89) rfl (teq (by decide : (1 : Int32) = (1 : Int32))).2 kq_) ?_
      show Gl p e below _ (T27.setTop (mkF m 92 #[.val (.int p1), .val (.int p2), .val (.int p3), .val (.int p4), .val (.int (1 : Int32)), .val (.int (p1 &&& (3 : Int32))), .val (.int ((p2 &&& (65535 : Int32)).toUInt32.toUInt16.toUInt32.toInt32)), .val (.int ((p3 &&& (65535 : Int32)).toUInt32.toUInt16.toUInt32.toInt32)), .val (.int ((p4 &&& (65535 : Int32)).toUInt32.toUInt16.toUInt32.toInt32)), .val .null, .val (.ref b24), .val (.int (1 : Int32))] []))
      refine Gl.of (fun _ kq_ => XS.iconst X27.here hx rfl (hb hby at_92) kq_) ?_
      show Gl p e below _ (T27.setTop (mkF m 93 #[.val (.int p1), .val (.int p2), .val (.int p3), .val (.int p4), .val (.int (1 : Int32)), .val (.int (p1 &&& (3 : Int32))), .val (.int ((p2 &&& (65535 : Int32)).toUInt32.toUInt16.toUInt32.toInt32)), .val (.int ((p3 &&& (65535 : Int32)).toUInt32.toUInt16.toUInt32.toInt32)), .val (.int ((p4 &&& (65535 : Int32)).toUInt32.toUInt16.toUInt32.toInt32)), .val .null, .val (.ref b24), .val (.int (1 : Int32))] [(.int (1 : Int32))]))
      refine Gl.of (fun _ kq_ => XS.goto X27.here hx rfl (pc0 := 93) (pc' := 97) rfl (hb hby at_93) (by decide) (by decide) kq_) ?_
      show Gl p e below _ (T27.setTop (mkF m 97 #[.val (.int p1), .val (.int p2), .val (.int p3), .val (.int p4), .val (.int (1 : Int32)), .val (.int (p1 &&& (3 : Int32))), .val (.int ((p2 &&& (65535 : Int32)).toUInt32.toUInt16.toUInt32.toInt32)), .val (.int ((p3 &&& (65535 : Int32)).toUInt32.toUInt16.toUInt32.toInt32)), .val (.int ((p4 &&& (65535 : Int32)).toUInt32.toUInt16.toUInt32.toInt32)), .val .null, .val (.ref b24), .val (.int (1 : Int32))] [(.int (1 : Int32))]))
      exact Gl.retNW X27 hx hlk hret (by simp) (hb hby at_97) e27 (⟨rfl, N25⟩) hS23 hk25 (by decide) (by decide)
    · exact absurd hi_ (by decide)
    · exact absurd hi_ (by decide)
set_option maxRecDepth 65536 in
set_option maxHeartbeats 40000000 in
theorem comes_1 {Post : Tables → Env → Array Value → State → Outcome → State → Prop} (hpost : ∀ tb e args s v u, (limb_1_1.after args s (.returned v) u = true ∧ limb_1_2.after args s (.returned v) u = true ∧ True) → ReturnedEndW s (.returned v) u (Jvm.fieldLocs frame_1_writes args s ++ Jvm.arrayLocs frame_1_arrays args s ++ Jvm.staticLocs frame_1_statics s) 24 1152 → Post tb e args s (.returned v) u) :
    ArmFor flags0 classFile x code maxLocals ret World_1 tables_1 room_1 Calls_1 rest_1 Pre_1 Post := by
  intro l hfl _ _ p e ha hc hk s m args below hf hA hF happ hP
  obtain ⟨hcalls, hrest, hpre⟩ := hP
  obtain ⟨-, -, -, hnamed, -, -, -, hat⟩ := (Spec.applies_iff hf).mp happ
  obtain ⟨hg, hn⟩ := and_e (Cond.before_iff.mp (show (Jvm.Cond.and given_1 narrow_1).before args s = true from hpre))
  obtain ⟨g_c, q_g_c⟩ := and_e hg
  obtain ⟨g_0, q_g_0⟩ := and_e q_g_c
  obtain ⟨g_1, q_g_1⟩ := and_e q_g_0
  obtain ⟨g_2, q_g_2⟩ := and_e q_g_1
  have g_3 := q_g_2
  obtain ⟨w_0, w_1, w_2, w_3, rfl⟩ : ∃ w_0 w_1 w_2 w_3 : Value, args = #[w_0, w_1, w_2, w_3] := by
    have hs : args.size = 4 := by simpa [Cond.value, given_1] using g_c
    obtain ⟨L⟩ := args
    match L, hs with
    | [w_0, w_1, w_2, w_3], _ => exact ⟨w_0, w_1, w_2, w_3, rfl⟩
  have hw := fun d (hd : d ∈ tables_1) => atoms_spec (ws := Jvm.Cond.code x code maxLocals ret :: tables_1) hat d (List.mem_cons_of_mem _ hd)
  have hfit : Fit s := fun {y c} hc i hi => by
    obtain ⟨ha, rfl⟩ := Array.getElem?_eq_some_iff.mp hc
    have q := List.all_eq_true.mp ((Array.all_eq_true_iff_forall_mem.mp hF) _ (Array.getElem_mem ha)) i (List.mem_range.mpr hi)
    simpa [Array.getElem?_eq_getElem hi] using q
  obtain ⟨p1, ei0⟩ := is_v g_0
  obtain rfl : w_0 = (.int p1) := Option.some.inj ei0
  obtain ⟨p2, ei1⟩ := is_v g_1
  obtain rfl : w_1 = (.int p2) := Option.some.inj ei1
  obtain ⟨p3, ei2⟩ := is_v g_2
  obtain rfl : w_2 = (.int p3) := Option.some.inj ei2
  obtain ⟨p4, ei3⟩ := is_v g_3
  obtain rfl : w_3 = (.int p4) := Option.some.inj ei3
  obtain ⟨r0, q_r0⟩ := and_e (Cond.before_iff.mp (show rest_1_c.before _ s = true from hrest))
  obtain ⟨r1, q_r1⟩ := and_e q_r0
  obtain ⟨r2, q_r2⟩ := and_e q_r1
  obtain ⟨r3, q_r3⟩ := and_e q_r2
  obtain ⟨r4, q_r4⟩ := and_e q_r3
  obtain ⟨r5, q_r5⟩ := and_e q_r4
  obtain ⟨r6, q_r6⟩ := and_e q_r5
  obtain ⟨r7, q_r7⟩ := and_e q_r6
  obtain ⟨r8, q_r8⟩ := and_e q_r7
  obtain ⟨r9, q_r9⟩ := and_e q_r8
  obtain ⟨r10, q_r10⟩ := and_e q_r9
  obtain ⟨r11, q_r11⟩ := and_e q_r10
  obtain ⟨r12, q_r12⟩ := and_e q_r11
  obtain ⟨r13, q_r13⟩ := and_e q_r12
  obtain ⟨r14, q_r14⟩ := and_e q_r13
  obtain ⟨r15, q_r15⟩ := and_e q_r14
  obtain ⟨r16, q_r16⟩ := and_e q_r15
  obtain ⟨r17, q_r17⟩ := and_e q_r16
  obtain ⟨r18, q_r18⟩ := and_e q_r17
  obtain ⟨r19, q_r19⟩ := and_e q_r18
  obtain ⟨r20, q_r20⟩ := and_e q_r19
  obtain ⟨r21, q_r21⟩ := and_e q_r20
  obtain ⟨r22, q_r22⟩ := and_e q_r21
  obtain ⟨r23, q_r23⟩ := and_e q_r22
  obtain ⟨r24, q_r24⟩ := and_e q_r23
  obtain ⟨r25, q_r25⟩ := and_e q_r24
  obtain ⟨r26, q_r26⟩ := and_e q_r25
  obtain ⟨r27, q_r27⟩ := and_e q_r26
  have r28 := q_r27
  obtain ⟨cz, ecz⟩ := is_v r10
  have SC := Sta.start ecz (Or.inl (Cond.before_iff.mpr r9))
  have hcz : ¬ cz = 0 := gotF (Cond.eq_ints ecz (Term.int_eval _)) (not_v r11)
  have hCH := CHv.start (EL := own_EL) (own_el hw) hcalls.1 (show Jvm.Lit.compactW.before _ s = true from Cond.before_iff.mpr r11) (w20 hw) (w6 hw)
  have Sa := Sta.start (eq_at r21) (Or.inl (Cond.before_iff.mpr r20))
  have Sh := Sta.start (eq_at r24) (Or.inl (Cond.before_iff.mpr r23))
  have Sl := Sta.start (eq_at r27) (Or.inl (Cond.before_iff.mpr r26))
  obtain ⟨ad, ead⟩ := arr_v r6
  have Sd := Sta.start ead (Or.inr ⟨(w36 hw), Cond.before_iff.mpr r2⟩)
  obtain ⟨n, o, h1, h2, h3, _, L, rfl, hQ, hq⟩ := rm0 l s _ hw tables_1 s.heap p1 p2 p3 p4 cz ad s.heap.size SC hcz Sa Sh Sl Sd (Old.start s) p e ha hc hk s m _ below hf ((Spec.applies_iff_loose hf).mp happ).1 ⟨rfl, State.Warmed39.refl s, rfl, hCH⟩ trivial
  obtain ⟨rfl, N⟩ := hQ
  exact ⟨n, _, h1, h2, h3, hpost _ _ _ _ _ _ ⟨Cond.after_iff.mpr rfl, Cond.after_iff.mpr (eq_i res_at (Term.int_eval (1)) rfl), trivial⟩ ⟨hq.1, hq.2.1, hq.2.2.1, (hq.2.2.2.sift fun y hy => Or.inr (N y hy)).mono (by decide) (by decide)⟩⟩
theorem main_1_1 : Claimed_1_1 := comes_1 fun _ _ _ _ _ _ h hF => ⟨h.1, hF⟩
theorem main_1_2 : Claimed_1_2 := comes_1 fun _ _ _ _ _ _ h hF => ⟨h.2.1, hF⟩
end Jvm.Pilot.@@N@@
namespace Jvm.Pilot.@@N@@
open Jvm Jvm.ClassFile Sem Op Lib Jvm.Free Jvm.Stand Jvm.Pilot.@@N@@.Jvm.D
/-! MADE BY PROGRAM (witnessworld.py) out of the Statement's table words and the real class files: 29 classes; the members and pool entries that the words name. The judged class is class 1, her method 1. -/
namespace start1
open Jvm.ClassFile
def u (s : String) : CpInfo := .utf8 (stringToUtf16 s)
/-- a pool by its gaps: so many unusable entries, then the entry; so many at the end -/
def gap : Nat → List CpInfo → List CpInfo
  | 0, r => r
  | n + 1, r => .unusable :: gap n r
def poolList (es : List (Nat × CpInfo)) (last : Nat) : List CpInfo := es.foldr (fun e r => gap e.1 (e.2 :: r)) (gap last [])
def pool (es : List (Nat × CpInfo)) (last : Nat) : Array CpInfo := ⟨poolList es last⟩
def fileOf (pool : Array CpInfo) (this : Nat) (attrs : Array Attribute := #[]) (ms : Array MethodInfo := #[]) (fl : Nat := 33) (sup : Nat := 0) (ifs : Array Nat := #[]) (fds : Array FieldInfo := #[]) : ClassFile where
  minorVersion := 0
  majorVersion := 65
  constantPool := pool
  accessFlags := fl
  thisClass := this
  superClass := sup
  interfaces := ifs
  fields := fds
  methods := ms
  attributes := attrs
def plain (name : String) (sup : Option ClassId) : Class where
  name := name
  kind := .ordinary
  loader := none
  accessFlags := 33
  super := sup
  interfaces := #[]
  cf := none
  fields := #[]
  methods := #[]
  instanceTypes := #[]
  staticTypes := #[]
  resolved := #[]
  callSites := []
  init := .initialized
  statics := none
  mirror := none

def pool0 : Array CpInfo := pool [(5, u "<init>"), (0, u "()V"), (1, .class_ 10), (1, u "java/lang/Object")] 113

def k0c0 : Code := { maxStack := 0, maxLocals := 1, code := object_method_1_code, exceptionTable := #[], attributes := #[] }
def k0m0 : Method := { name := "<init>", desc := "()V", sig := { parameters := [], returnType := none }, accessFlags := 1, code := some k0c0 }
/-- java/lang/Object -/
def k0 : Class := { plain "java/lang/Object" none with
  accessFlags := 33
  interfaces := #[]
  cf := some (fileOf pool0 8 #[] #[{ accessFlags := 1, nameIndex := 5, descriptorIndex := 6, attributes := #[] }] 33 0 #[] #[])
  fields := #[]
  methods := #[k0m0]
  instanceTypes := #[]
  staticTypes := #[]
  resolved := Array.replicate 124 none
  statics := none }

def pool1 : Array CpInfo := pool [(2, .class_ 4), (1, u "java/lang/Object"), (0, u "<init>"), (0, u "()V"), (0, .integer 65535), (0, .methodref 9 10), (0, .class_ 11), (0, .nameAndType 12 13), (0, u "com/example/pathstone/pathstone/NodeIsUnnamedPinLaw"), (0, u "makeName"), (0, u "(ZICCC)Ljava/lang/String;"), (0, .class_ 15), (0, u "com/example/pathstone/pathstone/Tree$Node"), (0, .methodref 14 17), (0, .nameAndType 5 18), (0, u "(Ljava/lang/String;)V"), (0, .methodref 14 20), (0, .nameAndType 21 22), (0, u "isUnnamed"), (0, u "()Z"), (0, .class_ 24), (0, u "java/lang/String"), (0, .methodref 23 26), (0, .nameAndType 5 27), (0, u "([C)V"), (0, .methodref 23 29), (0, .nameAndType 30 31), (0, u "valueOf"), (0, u "(C)Ljava/lang/String;"), (2, u "law"), (0, u "(IIII)Z")] 7

def k1m0 : Method := { name := "<init>", desc := "()V", sig := { parameters := [], returnType := none }, accessFlags := 2, code := none }
def k1c1 : Code := { maxStack := 5, maxLocals := 12, code := code, exceptionTable := #[], attributes := #[] }
def k1m1 : Method := { name := "law", desc := "(IIII)Z", sig := { parameters := [.int, .int, .int, .int], returnType := some .boolean }, accessFlags := 9, code := some k1c1 }
def k1c2 : Code := { maxStack := 3, maxLocals := 6, code := method_3_code, exceptionTable := #[], attributes := #[] }
def k1m2 : Method := { name := "makeName", desc := "(ZICCC)Ljava/lang/String;", sig := { parameters := [.boolean, .int, .char, .char, .char], returnType := some (.object "java/lang/String") }, accessFlags := 10, code := some k1c2 }
/-- com/example/pathstone/pathstone/NodeIsUnnamedPinLaw -/
def k1 : Class := { plain "com/example/pathstone/pathstone/NodeIsUnnamedPinLaw" (some 0) with
  accessFlags := 49
  interfaces := #[]
  cf := some (fileOf pool1 9 #[] #[{ accessFlags := 2, nameIndex := 5, descriptorIndex := 6, attributes := #[] }, { accessFlags := 9, nameIndex := 34, descriptorIndex := 35, attributes := #[] }, { accessFlags := 10, nameIndex := 12, descriptorIndex := 13, attributes := #[] }] 49 2 #[] #[])
  fields := #[]
  methods := #[k1m0, k1m1, k1m2]
  instanceTypes := #[]
  staticTypes := #[]
  resolved := Array.replicate 43 none
  statics := none }

def pool2 : Array CpInfo := pool [(1, .class_ 2), (0, u "java/io/Serializable"), (0, .class_ 4), (0, u "java/lang/Object")] 2

/-- java/io/Serializable -/
def k2 : Class := { plain "java/io/Serializable" (some 0) with
  accessFlags := 1537
  interfaces := #[]
  cf := some (fileOf pool2 1 #[] #[] 1537 3 #[] #[])
  fields := #[]
  methods := #[]
  instanceTypes := #[]
  staticTypes := #[]
  resolved := Array.replicate 7 none
  statics := none }

def pool3 : Array CpInfo := pool [(1, .class_ 2), (0, u "java/lang/Comparable"), (0, .class_ 4), (0, u "java/lang/Object")] 7

/-- java/lang/Comparable -/
def k3 : Class := { plain "java/lang/Comparable" (some 0) with
  accessFlags := 1537
  interfaces := #[]
  cf := some (fileOf pool3 1 #[] #[] 1537 3 #[] #[])
  fields := #[]
  methods := #[]
  instanceTypes := #[]
  staticTypes := #[]
  resolved := Array.replicate 12 none
  statics := none }

def pool4 : Array CpInfo := pool [(2, .class_ 4), (1, u "java/lang/CharSequence"), (42, .class_ 48), (0, u "java/lang/CharSequence$1CodePointIterator"), (10, .class_ 60), (0, u "java/lang/CharSequence$1CharIterator"), (5, .class_ 67), (0, u "java/lang/Object")] 63

/-- java/lang/CharSequence -/
def k4 : Class := { plain "java/lang/CharSequence" (some 0) with
  accessFlags := 1537
  interfaces := #[]
  cf := some (fileOf pool4 2 #[.nestMembers #[47, 59]] #[] 1537 66 #[] #[])
  fields := #[]
  methods := #[]
  instanceTypes := #[]
  staticTypes := #[]
  resolved := Array.replicate 131 none
  statics := none }

def pool5 : Array CpInfo := pool [(1, .class_ 2), (0, u "java/lang/constant/Constable"), (0, .class_ 4), (0, u "java/lang/Object")] 6

/-- java/lang/constant/Constable -/
def k5 : Class := { plain "java/lang/constant/Constable" (some 0) with
  accessFlags := 1537
  interfaces := #[]
  cf := some (fileOf pool5 1 #[] #[] 1537 3 #[] #[])
  fields := #[]
  methods := #[]
  instanceTypes := #[]
  staticTypes := #[]
  resolved := Array.replicate 11 none
  statics := none }

def pool6 : Array CpInfo := pool [(1, .class_ 2), (0, u "java/lang/constant/ConstantDesc"), (0, .class_ 4), (0, u "java/lang/Object")] 32

/-- java/lang/constant/ConstantDesc -/
def k6 : Class := { plain "java/lang/constant/ConstantDesc" (some 0) with
  accessFlags := 1537
  interfaces := #[]
  cf := some (fileOf pool6 1 #[] #[] 1537 3 #[] #[])
  fields := #[]
  methods := #[]
  instanceTypes := #[]
  staticTypes := #[]
  resolved := Array.replicate 37 none
  statics := none }

def pool7 : Array CpInfo := pool [(1, .methodref 2 3), (0, .class_ 4), (0, .nameAndType 5 6), (0, u "java/lang/Object"), (0, u "<init>"), (0, u "()V"), (0, .string 8), (0, u ""), (0, .fieldref 10 11), (0, .class_ 12), (0, .nameAndType 13 14), (0, u "java/lang/String"), (0, u "value"), (0, u "[B"), (0, .fieldref 10 16), (0, .nameAndType 17 18), (0, u "coder"), (0, u "B"), (2, u "hash"), (0, u "I"), (2, u "hashIsZero"), (0, u "Z"), (0, .methodref 10 28), (0, .nameAndType 5 29), (0, u "([CIILjava/lang/Void;)V"), (8, .fieldref 10 39), (0, .nameAndType 40 26), (0, u "COMPACT_STRINGS"), (1, .class_ 44), (1, u "java/lang/StringUTF16"), (0, u "compress"), (1, .methodref 42 48), (0, .nameAndType 49 50), (0, u "coderFromArrayLen"), (0, u "([BI)B"), (2, u "toBytes"), (53, .class_ 109), (1, u "java/lang/StringLatin1"), (32, u "()Z"), (34, .methodref 42 178), (0, .nameAndType 45 179), (0, u "([CII)[B"), (29, .methodref 10 210), (0, .nameAndType 5 211), (0, u "([BB)V"), (157, u "(C)Z"), (205, .class_ 576), (0, u "java/lang/CharSequence"), (22, u "CASE_INSENSITIVE_ORDER"), (0, u "Ljava/util/Comparator;"), (91, u "isEmpty"), (89, u "valueOf"), (0, u "(C)Ljava/lang/String;"), (226, u "([C)V"), (4, .methodref 107 1016), (0, .nameAndType 1017 369), (0, u "canEncode"), (0, .methodref 107 1019), (0, .nameAndType 53 1020), (0, u "(C)[B"), (0, .methodref 42 1019), (79, u "serialPersistentFields"), (0, u "[Ljava/io/ObjectStreamField;"), (0, .class_ 1104), (0, u "java/lang/String$CaseInsensitiveComparator"), (1, .class_ 1107), (0, u "java/io/Serializable"), (0, .class_ 1109), (0, u "java/lang/Comparable"), (0, .class_ 1111), (0, u "java/lang/constant/Constable"), (0, .class_ 1113), (0, u "java/lang/constant/ConstantDesc"), (2, u "serialVersionUID"), (0, u "J"), (3, u "REPL"), (0, u "C"), (2, u "LATIN1"), (1, u "UTF16")] 323

def k7m0 : Method := { name := "<init>", desc := "()V", sig := { parameters := [], returnType := none }, accessFlags := 1, code := none }
def k7c1 : Code := { maxStack := 5, maxLocals := 2, code := jdk_42_method_3_code, exceptionTable := #[], attributes := #[] }
def k7m1 : Method := { name := "<init>", desc := "([C)V", sig := { parameters := [(.array .char)], returnType := none }, accessFlags := 1, code := some k7c1 }
def k7c2 : Code := { maxStack := 1, maxLocals := 1, code := jdk_42_method_55_code, exceptionTable := #[], attributes := #[] }
def k7m2 : Method := { name := "isEmpty", desc := "()Z", sig := { parameters := [], returnType := some .boolean }, accessFlags := 1, code := some k7c2 }
def k7c3 : Code := { maxStack := 4, maxLocals := 1, code := jdk_42_method_139_code, exceptionTable := #[], attributes := #[] }
def k7m3 : Method := { name := "valueOf", desc := "(C)Ljava/lang/String;", sig := { parameters := [.char], returnType := some (.object "java/lang/String") }, accessFlags := 9, code := some k7c3 }
def k7c4 : Code := { maxStack := 4, maxLocals := 6, code := jdk_42_method_149_code, exceptionTable := #[], attributes := #[] }
def k7m4 : Method := { name := "<init>", desc := "([CIILjava/lang/Void;)V", sig := { parameters := [(.array .char), .int, .int, (.object "java/lang/Void")], returnType := none }, accessFlags := 2, code := some k7c4 }
def k7c5 : Code := { maxStack := 2, maxLocals := 3, code := jdk_42_method_151_code, exceptionTable := #[], attributes := #[] }
def k7m5 : Method := { name := "<init>", desc := "([BB)V", sig := { parameters := [(.array .byte), .byte], returnType := none }, accessFlags := 0, code := some k7c5 }
/-- java/lang/String -/
def k7 : Class := { plain "java/lang/String" (some 0) with
  accessFlags := 49
  interfaces := #[2, 3, 4, 5, 6]
  cf := some (fileOf pool7 10 #[.nestMembers #[1103]] #[{ accessFlags := 1, nameIndex := 5, descriptorIndex := 6, attributes := #[] }, { accessFlags := 1, nameIndex := 5, descriptorIndex := 1010, attributes := #[] }, { accessFlags := 1, nameIndex := 692, descriptorIndex := 142, attributes := #[] }, { accessFlags := 9, nameIndex := 782, descriptorIndex := 783, attributes := #[] }, { accessFlags := 2, nameIndex := 5, descriptorIndex := 29, attributes := #[] }, { accessFlags := 0, nameIndex := 5, descriptorIndex := 211, attributes := #[] }] 49 2 #[1106, 1108, 575, 1110, 1112] #[{ accessFlags := 18, nameIndex := 13, descriptorIndex := 14, attributes := #[] }, { accessFlags := 18, nameIndex := 17, descriptorIndex := 18, attributes := #[] }, { accessFlags := 2, nameIndex := 21, descriptorIndex := 22, attributes := #[] }, { accessFlags := 2, nameIndex := 25, descriptorIndex := 26, attributes := #[] }, { accessFlags := 26, nameIndex := 1116, descriptorIndex := 1117, attributes := #[] }, { accessFlags := 24, nameIndex := 40, descriptorIndex := 26, attributes := #[] }, { accessFlags := 26, nameIndex := 1101, descriptorIndex := 1102, attributes := #[] }, { accessFlags := 26, nameIndex := 1121, descriptorIndex := 1122, attributes := #[] }, { accessFlags := 25, nameIndex := 599, descriptorIndex := 600, attributes := #[] }, { accessFlags := 24, nameIndex := 1125, descriptorIndex := 18, attributes := #[] }, { accessFlags := 24, nameIndex := 1127, descriptorIndex := 18, attributes := #[] }])
  fields := #[{ name := "value", type := (.array .byte), accessFlags := 18, slot := 0, constantValue := 0 }, { name := "coder", type := .byte, accessFlags := 18, slot := 1, constantValue := 0 }, { name := "hash", type := .int, accessFlags := 2, slot := 2, constantValue := 0 }, { name := "hashIsZero", type := .boolean, accessFlags := 2, slot := 3, constantValue := 0 }, { name := "serialVersionUID", type := .long, accessFlags := 26, slot := 0, constantValue := 0 }, { name := "COMPACT_STRINGS", type := .boolean, accessFlags := 24, slot := 1, constantValue := 0 }, { name := "serialPersistentFields", type := (.array (.object "java/io/ObjectStreamField")), accessFlags := 26, slot := 2, constantValue := 0 }, { name := "REPL", type := .char, accessFlags := 26, slot := 3, constantValue := 0 }, { name := "CASE_INSENSITIVE_ORDER", type := (.object "java/util/Comparator"), accessFlags := 25, slot := 4, constantValue := 0 }, { name := "LATIN1", type := .byte, accessFlags := 24, slot := 5, constantValue := 0 }, { name := "UTF16", type := .byte, accessFlags := 24, slot := 6, constantValue := 0 }]
  methods := #[k7m0, k7m1, k7m2, k7m3, k7m4, k7m5]
  instanceTypes := #[(.array .byte), .byte, .int, .boolean]
  staticTypes := #[.long, .boolean, (.array (.object "java/io/ObjectStreamField")), .char, (.object "java/util/Comparator"), .byte, .byte]
  resolved := Array.replicate 1451 none
  statics := some 0 }

def pool8 : Array CpInfo := pool [(1, .methodref 2 3), (0, .class_ 4), (0, .nameAndType 5 6), (0, u "java/lang/Object"), (0, u "<init>"), (0, u "()V"), (0, .class_ 8), (0, u "java/util/ArrayList"), (0, .methodref 7 3), (0, .fieldref 11 12), (0, .class_ 13), (0, .nameAndType 14 15), (0, u "com/example/pathstone/pathstone/Tree$Node"), (0, u "children"), (0, u "Ljava/util/List;"), (2, .double 9221120237041090560), (1, .fieldref 11 21), (0, .nameAndType 22 23), (0, u "length"), (0, u "D"), (0, .fieldref 11 25), (0, .nameAndType 26 27), (0, u "name"), (0, u "Ljava/lang/String;"), (0, .methodref 29 30), (0, .class_ 31), (0, .nameAndType 32 33), (0, u "java/lang/String"), (0, u "isEmpty"), (0, u "()Z"), (8, u "index"), (0, u "I"), (0, u "(Ljava/lang/String;)V"), (2, u "isUnnamed"), (7, .class_ 56), (0, u "com/example/pathstone/pathstone/Tree")] 2

def k8c0 : Code := { maxStack := 3, maxLocals := 2, code := prog_30_method_1_code, exceptionTable := #[], attributes := #[] }
def k8m0 : Method := { name := "<init>", desc := "(Ljava/lang/String;)V", sig := { parameters := [(.object "java/lang/String")], returnType := none }, accessFlags := 0, code := some k8c0 }
def k8c1 : Code := { maxStack := 1, maxLocals := 1, code := prog_30_method_2_code, exceptionTable := #[], attributes := #[] }
def k8m1 : Method := { name := "isUnnamed", desc := "()Z", sig := { parameters := [], returnType := some .boolean }, accessFlags := 0, code := some k8c1 }
/-- com/example/pathstone/pathstone/Tree$Node -/
def k8 : Class := { plain "com/example/pathstone/pathstone/Tree$Node" (some 0) with
  accessFlags := 48
  interfaces := #[]
  cf := some (fileOf pool8 11 #[.nestHost 55] #[{ accessFlags := 0, nameIndex := 5, descriptorIndex := 44, attributes := #[] }, { accessFlags := 0, nameIndex := 47, descriptorIndex := 33, attributes := #[] }] 48 2 #[] #[{ accessFlags := 18, nameIndex := 26, descriptorIndex := 27, attributes := #[] }, { accessFlags := 18, nameIndex := 14, descriptorIndex := 15, attributes := #[] }, { accessFlags := 2, nameIndex := 22, descriptorIndex := 23, attributes := #[] }, { accessFlags := 2, nameIndex := 42, descriptorIndex := 43, attributes := #[] }])
  fields := #[{ name := "name", type := (.object "java/lang/String"), accessFlags := 18, slot := 0, constantValue := 0 }, { name := "children", type := (.object "java/util/List"), accessFlags := 18, slot := 1, constantValue := 0 }, { name := "length", type := .double, accessFlags := 2, slot := 2, constantValue := 0 }, { name := "index", type := .int, accessFlags := 2, slot := 3, constantValue := 0 }]
  methods := #[k8m0, k8m1]
  instanceTypes := #[(.object "java/lang/String"), (.object "java/util/List"), .double, .int]
  staticTypes := #[]
  resolved := Array.replicate 59 none
  statics := none }

def pool9 : Array CpInfo := pool [(8, .class_ 10), (1, u "java/lang/Iterable"), (24, .class_ 36), (0, u "java/lang/Object")] 25

/-- java/lang/Iterable -/
def k9 : Class := { plain "java/lang/Iterable" (some 0) with
  accessFlags := 1537
  interfaces := #[]
  cf := some (fileOf pool9 8 #[] #[] 1537 35 #[] #[])
  fields := #[]
  methods := #[]
  instanceTypes := #[]
  staticTypes := #[]
  resolved := Array.replicate 62 none
  statics := none }

def pool10 : Array CpInfo := pool [(10, .class_ 12), (1, u "java/util/Collection"), (47, .class_ 61), (0, u "java/lang/Object"), (0, .class_ 63), (0, u "java/lang/Iterable")] 51

/-- java/util/Collection -/
def k10 : Class := { plain "java/util/Collection" (some 0) with
  accessFlags := 1537
  interfaces := #[9]
  cf := some (fileOf pool10 10 #[] #[] 1537 60 #[62] #[])
  fields := #[]
  methods := #[]
  instanceTypes := #[]
  staticTypes := #[]
  resolved := Array.replicate 115 none
  statics := none }

def pool11 : Array CpInfo := pool [(1, .methodref 2 3), (0, .class_ 4), (0, .nameAndType 5 6), (0, u "java/lang/Object"), (0, u "<init>"), (0, u "()V"), (1, .class_ 10), (1, u "java/util/AbstractCollection"), (66, .class_ 78), (0, u "java/util/Collection")] 81

def k11c0 : Code := { maxStack := 1, maxLocals := 1, code := jdk_22_method_1_code, exceptionTable := #[], attributes := #[] }
def k11m0 : Method := { name := "<init>", desc := "()V", sig := { parameters := [], returnType := none }, accessFlags := 4, code := some k11c0 }
/-- java/util/AbstractCollection -/
def k11 : Class := { plain "java/util/AbstractCollection" (some 0) with
  accessFlags := 1057
  interfaces := #[10]
  cf := some (fileOf pool11 8 #[] #[{ accessFlags := 4, nameIndex := 5, descriptorIndex := 6, attributes := #[] }] 1057 2 #[77] #[])
  fields := #[]
  methods := #[k11m0]
  instanceTypes := #[]
  staticTypes := #[]
  resolved := Array.replicate 160 none
  statics := none }

def pool12 : Array CpInfo := pool [(8, .class_ 10), (1, u "java/util/SequencedCollection"), (15, .class_ 27), (0, u "java/lang/Object"), (0, .class_ 29), (0, u "java/util/Collection")] 27

/-- java/util/SequencedCollection -/
def k12 : Class := { plain "java/util/SequencedCollection" (some 0) with
  accessFlags := 1537
  interfaces := #[10]
  cf := some (fileOf pool12 8 #[] #[] 1537 26 #[28] #[])
  fields := #[]
  methods := #[]
  instanceTypes := #[]
  staticTypes := #[]
  resolved := Array.replicate 57 none
  statics := none }

def pool13 : Array CpInfo := pool [(8, .class_ 10), (1, u "java/util/List"), (92, .class_ 104), (0, u "java/lang/Object"), (15, .class_ 121), (0, u "java/util/SequencedCollection")] 129

/-- java/util/List -/
def k13 : Class := { plain "java/util/List" (some 0) with
  accessFlags := 1537
  interfaces := #[12]
  cf := some (fileOf pool13 8 #[] #[] 1537 103 #[120] #[])
  fields := #[]
  methods := #[]
  instanceTypes := #[]
  staticTypes := #[]
  resolved := Array.replicate 251 none
  statics := none }

def pool14 : Array CpInfo := pool [(1, .methodref 2 3), (0, .class_ 4), (0, .nameAndType 5 6), (0, u "java/util/AbstractCollection"), (0, u "<init>"), (0, u "()V"), (0, .fieldref 8 9), (0, .class_ 10), (0, .nameAndType 11 12), (0, u "java/util/AbstractList"), (0, u "modCount"), (0, u "I"), (64, .class_ 78), (0, u "java/util/AbstractList$Itr"), (3, .class_ 83), (0, u "java/util/AbstractList$ListItr"), (9, .class_ 94), (0, u "java/util/AbstractList$RandomAccessSubList"), (3, .class_ 99), (0, u "java/util/AbstractList$SubList"), (33, .class_ 134), (0, u "java/util/List"), (73, .class_ 209), (0, u "java/util/AbstractList$SubList$1"), (0, .class_ 211), (0, u "java/util/AbstractList$RandomAccessSpliterator")] 6

def k14c0 : Code := { maxStack := 2, maxLocals := 1, code := jdk_39_method_1_code, exceptionTable := #[], attributes := #[] }
def k14m0 : Method := { name := "<init>", desc := "()V", sig := { parameters := [], returnType := none }, accessFlags := 4, code := some k14c0 }
/-- java/util/AbstractList -/
def k14 : Class := { plain "java/util/AbstractList" (some 11) with
  accessFlags := 1057
  interfaces := #[13]
  cf := some (fileOf pool14 8 #[.nestMembers #[93, 98, 208, 210, 82, 77]] #[{ accessFlags := 4, nameIndex := 5, descriptorIndex := 6, attributes := #[] }] 1057 2 #[133] #[{ accessFlags := 132, nameIndex := 11, descriptorIndex := 12, attributes := #[] }])
  fields := #[{ name := "modCount", type := .int, accessFlags := 132, slot := 0, constantValue := 0 }]
  methods := #[k14m0]
  instanceTypes := #[.int]
  staticTypes := #[]
  resolved := Array.replicate 218 none
  statics := none }

def pool15 : Array CpInfo := pool [(1, .class_ 2), (0, u "java/util/RandomAccess"), (0, .class_ 4), (0, u "java/lang/Object")] 2

/-- java/util/RandomAccess -/
def k15 : Class := { plain "java/util/RandomAccess" (some 0) with
  accessFlags := 1537
  interfaces := #[]
  cf := some (fileOf pool15 1 #[] #[] 1537 3 #[] #[])
  fields := #[]
  methods := #[]
  instanceTypes := #[]
  staticTypes := #[]
  resolved := Array.replicate 7 none
  statics := none }

def pool16 : Array CpInfo := pool [(1, .class_ 2), (0, u "java/lang/Cloneable"), (0, .class_ 4), (0, u "java/lang/Object")] 2

/-- java/lang/Cloneable -/
def k16 : Class := { plain "java/lang/Cloneable" (some 0) with
  accessFlags := 1537
  interfaces := #[]
  cf := some (fileOf pool16 1 #[] #[] 1537 3 #[] #[])
  fields := #[]
  methods := #[]
  instanceTypes := #[]
  staticTypes := #[]
  resolved := Array.replicate 7 none
  statics := none }

def pool17 : Array CpInfo := pool [(1, .methodref 2 3), (0, .class_ 4), (0, .nameAndType 5 6), (0, u "java/util/AbstractList"), (0, u "<init>"), (0, u "()V"), (2, .fieldref 10 11), (0, .class_ 12), (0, .nameAndType 13 14), (0, u "java/util/ArrayList"), (0, u "elementData"), (0, u "[Ljava/lang/Object;"), (2, u "EMPTY_ELEMENTDATA"), (21, .fieldref 10 40), (0, .nameAndType 41 14), (0, u "DEFAULTCAPACITY_EMPTY_ELEMENTDATA"), (8, u "size"), (0, u "I"), (96, .class_ 149), (0, u "java/util/List"), (112, .class_ 263), (0, u "java/util/ArrayList$ListItr"), (3, .class_ 268), (0, u "java/util/ArrayList$Itr"), (7, .class_ 277), (0, u "java/util/ArrayList$SubList"), (12, .class_ 291), (0, u "java/util/ArrayList$ArrayListSpliterator"), (37, .class_ 330), (0, u "java/util/RandomAccess"), (0, .class_ 332), (0, u "java/lang/Cloneable"), (0, .class_ 334), (0, u "java/io/Serializable"), (0, u "serialVersionUID"), (0, u "J"), (3, u "DEFAULT_CAPACITY"), (159, .class_ 501), (0, u "java/util/ArrayList$SubList$2"), (0, .class_ 503), (0, u "java/util/ArrayList$SubList$1")] 5

def k17c0 : Code := { maxStack := 2, maxLocals := 1, code := jdk_38_method_2_code, exceptionTable := #[], attributes := #[] }
def k17m0 : Method := { name := "<init>", desc := "()V", sig := { parameters := [], returnType := none }, accessFlags := 1, code := some k17c0 }
/-- java/util/ArrayList -/
def k17 : Class := { plain "java/util/ArrayList" (some 14) with
  accessFlags := 33
  interfaces := #[13, 15, 16, 2]
  cf := some (fileOf pool17 10 #[.nestMembers #[290, 276, 500, 502, 262, 267]] #[{ accessFlags := 1, nameIndex := 5, descriptorIndex := 6, attributes := #[] }] 33 2 #[148, 329, 331, 333] #[{ accessFlags := 26, nameIndex := 335, descriptorIndex := 336, attributes := #[] }, { accessFlags := 26, nameIndex := 340, descriptorIndex := 51, attributes := #[] }, { accessFlags := 26, nameIndex := 17, descriptorIndex := 14, attributes := #[] }, { accessFlags := 26, nameIndex := 41, descriptorIndex := 14, attributes := #[] }, { accessFlags := 128, nameIndex := 13, descriptorIndex := 14, attributes := #[] }, { accessFlags := 2, nameIndex := 50, descriptorIndex := 51, attributes := #[] }])
  fields := #[{ name := "serialVersionUID", type := .long, accessFlags := 26, slot := 0, constantValue := 0 }, { name := "DEFAULT_CAPACITY", type := .int, accessFlags := 26, slot := 1, constantValue := 0 }, { name := "EMPTY_ELEMENTDATA", type := (.array (.object "java/lang/Object")), accessFlags := 26, slot := 2, constantValue := 0 }, { name := "DEFAULTCAPACITY_EMPTY_ELEMENTDATA", type := (.array (.object "java/lang/Object")), accessFlags := 26, slot := 3, constantValue := 0 }, { name := "elementData", type := (.array (.object "java/lang/Object")), accessFlags := 128, slot := 1, constantValue := 0 }, { name := "size", type := .int, accessFlags := 2, slot := 2, constantValue := 0 }]
  methods := #[k17m0]
  instanceTypes := #[.int, (.array (.object "java/lang/Object")), .int]
  staticTypes := #[.long, .int, (.array (.object "java/lang/Object")), (.array (.object "java/lang/Object"))]
  resolved := Array.replicate 509 none
  statics := some 1 }

def pool18 : Array CpInfo := pool [(6, .class_ 8), (1, u "java/lang/Object"), (0, u "<init>"), (0, u "()V"), (0, .methodref 12 13), (0, .class_ 14), (0, .nameAndType 15 16), (0, u "java/lang/StringUTF16"), (0, u "newBytesLength"), (0, u "(I)I"), (3, .integer 1073741823), (23, .fieldref 12 45), (0, .nameAndType 46 47), (0, u "$assertionsDisabled"), (0, u "Z"), (11, .fieldref 12 60), (0, .nameAndType 61 62), (0, u "HI_BYTE_SHIFT"), (0, u "I"), (0, .fieldref 12 64), (0, .nameAndType 65 62), (0, u "LO_BYTE_SHIFT"), (5, .methodref 12 72), (0, .nameAndType 73 74), (0, u "getChar"), (0, u "([BI)C"), (32, .methodref 12 108), (0, .nameAndType 109 110), (0, u "newBytesFor"), (0, u "(I)[B"), (0, .methodref 12 112), (0, .nameAndType 113 114), (0, u "putChar"), (0, u "([BII)V"), (0, .methodref 12 116), (0, .nameAndType 117 118), (0, u "compress"), (0, u "([CI[BII)I"), (0, .methodref 12 120), (0, .nameAndType 121 122), (0, u "toBytes"), (0, u "([CII)[B"), (138, u "coderFromArrayLen"), (0, u "([BI)B"), (106, .class_ 371), (1, u "java/lang/StringUTF16$LinesSpliterator"), (58, u "MAX_LENGTH"), (44, u "(C)[B"), (151, .class_ 628), (0, u "java/lang/StringUTF16$CodePointsSpliterator"), (0, .class_ 630), (0, u "java/lang/StringUTF16$CharsSpliterator")] 4

def k18m0 : Method := { name := "<init>", desc := "()V", sig := { parameters := [], returnType := none }, accessFlags := 0, code := none }
def k18c1 : Code := { maxStack := 1, maxLocals := 1, code := jdk_52_method_2_code, exceptionTable := #[], attributes := #[] }
def k18m1 : Method := { name := "newBytesFor", desc := "(I)[B", sig := { parameters := [.int], returnType := some (.array .byte) }, accessFlags := 9, code := some k18c1 }
def k18c2 : Code := { maxStack := 4, maxLocals := 1, code := jdk_52_method_3_code, exceptionTable := #[], attributes := #[] }
def k18m2 : Method := { name := "newBytesLength", desc := "(I)I", sig := { parameters := [.int], returnType := some .int }, accessFlags := 9, code := some k18c2 }
def k18c3 : Code := { maxStack := 4, maxLocals := 3, code := jdk_52_method_4_code, exceptionTable := #[], attributes := #[] }
def k18m3 : Method := { name := "putChar", desc := "([BII)V", sig := { parameters := [(.array .byte), .int, .int], returnType := none }, accessFlags := 8, code := some k18c3 }
def k18c4 : Code := { maxStack := 3, maxLocals := 2, code := jdk_52_method_5_code, exceptionTable := #[], attributes := #[] }
def k18m4 : Method := { name := "getChar", desc := "([BI)C", sig := { parameters := [(.array .byte), .int], returnType := some .char }, accessFlags := 8, code := some k18c4 }
def k18c5 : Code := { maxStack := 4, maxLocals := 5, code := jdk_52_method_14_code, exceptionTable := #[], attributes := #[] }
def k18m5 : Method := { name := "toBytes", desc := "([CII)[B", sig := { parameters := [(.array .char), .int, .int], returnType := some (.array .byte) }, accessFlags := 9, code := some k18c5 }
def k18c6 : Code := { maxStack := 2, maxLocals := 2, code := jdk_52_method_15_code, exceptionTable := #[], attributes := #[] }
def k18m6 : Method := { name := "coderFromArrayLen", desc := "([BI)B", sig := { parameters := [(.array .byte), .int], returnType := some .byte }, accessFlags := 8, code := some k18c6 }
def k18c7 : Code := { maxStack := 5, maxLocals := 6, code := jdk_52_method_16_code, exceptionTable := #[], attributes := #[] }
def k18m7 : Method := { name := "compress", desc := "([CII)[B", sig := { parameters := [(.array .char), .int, .int], returnType := some (.array .byte) }, accessFlags := 9, code := some k18c7 }
def k18c8 : Code := { maxStack := 3, maxLocals := 7, code := jdk_52_method_21_code, exceptionTable := #[], attributes := #[] }
def k18m8 : Method := { name := "compress", desc := "([CI[BII)I", sig := { parameters := [(.array .char), .int, (.array .byte), .int, .int], returnType := some .int }, accessFlags := 9, code := some k18c8 }
def k18c9 : Code := { maxStack := 3, maxLocals := 2, code := jdk_52_method_24_code, exceptionTable := #[], attributes := #[] }
def k18m9 : Method := { name := "toBytes", desc := "(C)[B", sig := { parameters := [.char], returnType := some (.array .byte) }, accessFlags := 9, code := some k18c9 }
/-- java/lang/StringUTF16 -/
def k18 : Class := { plain "java/lang/StringUTF16" (some 0) with
  accessFlags := 48
  interfaces := #[]
  cf := some (fileOf pool18 12 #[.nestMembers #[627, 629, 369]] #[{ accessFlags := 0, nameIndex := 9, descriptorIndex := 10, attributes := #[] }, { accessFlags := 9, nameIndex := 109, descriptorIndex := 110, attributes := #[] }, { accessFlags := 9, nameIndex := 15, descriptorIndex := 16, attributes := #[] }, { accessFlags := 8, nameIndex := 113, descriptorIndex := 114, attributes := #[] }, { accessFlags := 8, nameIndex := 73, descriptorIndex := 74, attributes := #[] }, { accessFlags := 9, nameIndex := 121, descriptorIndex := 122, attributes := #[] }, { accessFlags := 8, nameIndex := 261, descriptorIndex := 262, attributes := #[] }, { accessFlags := 9, nameIndex := 117, descriptorIndex := 122, attributes := #[] }, { accessFlags := 9, nameIndex := 117, descriptorIndex := 118, attributes := #[] }, { accessFlags := 9, nameIndex := 121, descriptorIndex := 475, attributes := #[] }] 48 6 #[] #[{ accessFlags := 26, nameIndex := 61, descriptorIndex := 62, attributes := #[] }, { accessFlags := 26, nameIndex := 65, descriptorIndex := 62, attributes := #[] }, { accessFlags := 24, nameIndex := 430, descriptorIndex := 62, attributes := #[] }, { accessFlags := 4120, nameIndex := 46, descriptorIndex := 47, attributes := #[] }])
  fields := #[{ name := "HI_BYTE_SHIFT", type := .int, accessFlags := 26, slot := 0, constantValue := 0 }, { name := "LO_BYTE_SHIFT", type := .int, accessFlags := 26, slot := 1, constantValue := 0 }, { name := "MAX_LENGTH", type := .int, accessFlags := 24, slot := 2, constantValue := 0 }, { name := "$assertionsDisabled", type := .boolean, accessFlags := 4120, slot := 3, constantValue := 0 }]
  methods := #[k18m0, k18m1, k18m2, k18m3, k18m4, k18m5, k18m6, k18m7, k18m8, k18m9]
  instanceTypes := #[]
  staticTypes := #[.int, .int, .int, .boolean]
  resolved := Array.replicate 635 none
  statics := some 2 }

def pool19 : Array CpInfo := pool [(4, .class_ 6), (1, u "java/lang/Object"), (0, u "<init>"), (0, u "()V"), (5, .class_ 16), (1, u "java/lang/StringLatin1"), (73, u "canEncode"), (14, u "(C)Z"), (15, u "$assertionsDisabled"), (0, u "Z"), (98, .class_ 223), (1, u "java/lang/StringLatin1$LinesSpliterator"), (156, u "toBytes"), (1, u "(C)[B"), (7, .class_ 391), (0, u "java/lang/StringLatin1$CharsSpliterator")] 3

def k19m0 : Method := { name := "<init>", desc := "()V", sig := { parameters := [], returnType := none }, accessFlags := 0, code := none }
def k19c1 : Code := { maxStack := 2, maxLocals := 1, code := jdk_43_method_3_code, exceptionTable := #[], attributes := #[] }
def k19m1 : Method := { name := "canEncode", desc := "(C)Z", sig := { parameters := [.char], returnType := some .boolean }, accessFlags := 9, code := some k19c1 }
def k19c2 : Code := { maxStack := 4, maxLocals := 1, code := jdk_43_method_46_code, exceptionTable := #[], attributes := #[] }
def k19m2 : Method := { name := "toBytes", desc := "(C)[B", sig := { parameters := [.char], returnType := some (.array .byte) }, accessFlags := 9, code := some k19c2 }
/-- java/lang/StringLatin1 -/
def k19 : Class := { plain "java/lang/StringLatin1" (some 0) with
  accessFlags := 48
  interfaces := #[]
  cf := some (fileOf pool19 14 #[.nestMembers #[390, 221]] #[{ accessFlags := 0, nameIndex := 7, descriptorIndex := 8, attributes := #[] }, { accessFlags := 9, nameIndex := 90, descriptorIndex := 105, attributes := #[] }, { accessFlags := 9, nameIndex := 380, descriptorIndex := 382, attributes := #[] }] 48 4 #[] #[{ accessFlags := 4120, nameIndex := 121, descriptorIndex := 122, attributes := #[] }])
  fields := #[{ name := "$assertionsDisabled", type := .boolean, accessFlags := 4120, slot := 0, constantValue := 0 }]
  methods := #[k19m0, k19m1, k19m2]
  instanceTypes := #[]
  staticTypes := #[.boolean]
  resolved := Array.replicate 395 none
  statics := none }

def pool20 : Array CpInfo := pool [(2, .class_ 4), (1, u "java/lang/Object"), (0, u "<init>"), (0, u "()V"), (17, .class_ 26), (1, u "jdk/internal/util/Preconditions"), (28, .class_ 56), (0, u "jdk/internal/util/Preconditions$4"), (57, .class_ 115), (0, u "jdk/internal/util/Preconditions$1"), (7, u "SIOOBE_FORMATTER"), (0, u "Ljava/util/function/BiFunction;"), (0, .class_ 126), (0, u "jdk/internal/util/Preconditions$2"), (3, u "AIOOBE_FORMATTER"), (0, .class_ 132), (0, u "jdk/internal/util/Preconditions$3"), (3, u "IOOBE_FORMATTER")] 57

def k20m0 : Method := { name := "<init>", desc := "()V", sig := { parameters := [], returnType := none }, accessFlags := 1, code := none }
/-- jdk/internal/util/Preconditions -/
def k20 : Class := { plain "jdk/internal/util/Preconditions" (some 0) with
  accessFlags := 33
  interfaces := #[]
  cf := some (fileOf pool20 24 #[.nestMembers #[55, 131, 125, 114]] #[{ accessFlags := 1, nameIndex := 5, descriptorIndex := 6, attributes := #[] }] 33 2 #[] #[{ accessFlags := 25, nameIndex := 123, descriptorIndex := 124, attributes := #[] }, { accessFlags := 25, nameIndex := 130, descriptorIndex := 124, attributes := #[] }, { accessFlags := 25, nameIndex := 136, descriptorIndex := 124, attributes := #[] }])
  fields := #[{ name := "SIOOBE_FORMATTER", type := (.object "java/util/function/BiFunction"), accessFlags := 25, slot := 0, constantValue := 0 }, { name := "AIOOBE_FORMATTER", type := (.object "java/util/function/BiFunction"), accessFlags := 25, slot := 1, constantValue := 0 }, { name := "IOOBE_FORMATTER", type := (.object "java/util/function/BiFunction"), accessFlags := 25, slot := 2, constantValue := 0 }]
  methods := #[k20m0]
  instanceTypes := #[]
  staticTypes := #[(.object "java/util/function/BiFunction"), (.object "java/util/function/BiFunction"), (.object "java/util/function/BiFunction")]
  resolved := Array.replicate 194 none
  statics := some 3 }

def pool21 : Array CpInfo := pool [(9, u "<init>"), (6, .class_ 18), (1, u "java/lang/Object"), (0, u "()V"), (1, .class_ 23), (1, u "jdk/internal/util/ArraysSupport"), (0, u "LOG2_ARRAY_LONG_INDEX_SCALE"), (0, u "I"), (2, u "U"), (0, u "Ljdk/internal/misc/Unsafe;"), (8, u "BIG_ENDIAN"), (0, u "Z"), (8, u "LOG2_BYTE_BIT_SIZE"), (4, u "LOG2_ARRAY_INT_INDEX_SCALE"), (54, u "JLA"), (0, u "Ljdk/internal/access/JavaLangAccess;"), (11, u "LOG2_ARRAY_BOOLEAN_INDEX_SCALE"), (9, u "LOG2_ARRAY_BYTE_INDEX_SCALE"), (5, u "LOG2_ARRAY_CHAR_INDEX_SCALE"), (5, u "LOG2_ARRAY_SHORT_INDEX_SCALE"), (18, u "LOG2_ARRAY_FLOAT_INDEX_SCALE"), (24, u "LOG2_ARRAY_DOUBLE_INDEX_SCALE"), (89, u "T_BOOLEAN"), (2, u "T_CHAR"), (1, u "T_FLOAT"), (1, u "T_DOUBLE"), (1, u "T_BYTE"), (1, u "T_SHORT"), (1, u "T_INT"), (1, u "T_LONG"), (1, u "SOFT_MAX_ARRAY_LENGTH")] 83

def k21m0 : Method := { name := "<init>", desc := "()V", sig := { parameters := [], returnType := none }, accessFlags := 2, code := none }
/-- jdk/internal/util/ArraysSupport -/
def k21 : Class := { plain "jdk/internal/util/ArraysSupport" (some 0) with
  accessFlags := 33
  interfaces := #[]
  cf := some (fileOf pool21 21 #[] #[{ accessFlags := 2, nameIndex := 9, descriptorIndex := 19, attributes := #[] }] 33 16 #[] #[{ accessFlags := 24, nameIndex := 28, descriptorIndex := 29, attributes := #[] }, { accessFlags := 26, nameIndex := 38, descriptorIndex := 39, attributes := #[] }, { accessFlags := 25, nameIndex := 121, descriptorIndex := 25, attributes := #[] }, { accessFlags := 25, nameIndex := 131, descriptorIndex := 25, attributes := #[] }, { accessFlags := 25, nameIndex := 137, descriptorIndex := 25, attributes := #[] }, { accessFlags := 25, nameIndex := 143, descriptorIndex := 25, attributes := #[] }, { accessFlags := 25, nameIndex := 53, descriptorIndex := 25, attributes := #[] }, { accessFlags := 25, nameIndex := 24, descriptorIndex := 25, attributes := #[] }, { accessFlags := 25, nameIndex := 162, descriptorIndex := 25, attributes := #[] }, { accessFlags := 25, nameIndex := 187, descriptorIndex := 25, attributes := #[] }, { accessFlags := 26, nameIndex := 48, descriptorIndex := 25, attributes := #[] }, { accessFlags := 25, nameIndex := 277, descriptorIndex := 25, attributes := #[] }, { accessFlags := 25, nameIndex := 280, descriptorIndex := 25, attributes := #[] }, { accessFlags := 25, nameIndex := 282, descriptorIndex := 25, attributes := #[] }, { accessFlags := 25, nameIndex := 284, descriptorIndex := 25, attributes := #[] }, { accessFlags := 25, nameIndex := 286, descriptorIndex := 25, attributes := #[] }, { accessFlags := 25, nameIndex := 288, descriptorIndex := 25, attributes := #[] }, { accessFlags := 25, nameIndex := 290, descriptorIndex := 25, attributes := #[] }, { accessFlags := 25, nameIndex := 292, descriptorIndex := 25, attributes := #[] }, { accessFlags := 26, nameIndex := 108, descriptorIndex := 109, attributes := #[] }, { accessFlags := 25, nameIndex := 294, descriptorIndex := 25, attributes := #[] }])
  fields := #[{ name := "U", type := (.object "jdk/internal/misc/Unsafe"), accessFlags := 24, slot := 0, constantValue := 0 }, { name := "BIG_ENDIAN", type := .boolean, accessFlags := 26, slot := 1, constantValue := 0 }, { name := "LOG2_ARRAY_BOOLEAN_INDEX_SCALE", type := .int, accessFlags := 25, slot := 2, constantValue := 0 }, { name := "LOG2_ARRAY_BYTE_INDEX_SCALE", type := .int, accessFlags := 25, slot := 3, constantValue := 0 }, { name := "LOG2_ARRAY_CHAR_INDEX_SCALE", type := .int, accessFlags := 25, slot := 4, constantValue := 0 }, { name := "LOG2_ARRAY_SHORT_INDEX_SCALE", type := .int, accessFlags := 25, slot := 5, constantValue := 0 }, { name := "LOG2_ARRAY_INT_INDEX_SCALE", type := .int, accessFlags := 25, slot := 6, constantValue := 0 }, { name := "LOG2_ARRAY_LONG_INDEX_SCALE", type := .int, accessFlags := 25, slot := 7, constantValue := 0 }, { name := "LOG2_ARRAY_FLOAT_INDEX_SCALE", type := .int, accessFlags := 25, slot := 8, constantValue := 0 }, { name := "LOG2_ARRAY_DOUBLE_INDEX_SCALE", type := .int, accessFlags := 25, slot := 9, constantValue := 0 }, { name := "LOG2_BYTE_BIT_SIZE", type := .int, accessFlags := 26, slot := 10, constantValue := 0 }, { name := "T_BOOLEAN", type := .int, accessFlags := 25, slot := 11, constantValue := 0 }, { name := "T_CHAR", type := .int, accessFlags := 25, slot := 12, constantValue := 0 }, { name := "T_FLOAT", type := .int, accessFlags := 25, slot := 13, constantValue := 0 }, { name := "T_DOUBLE", type := .int, accessFlags := 25, slot := 14, constantValue := 0 }, { name := "T_BYTE", type := .int, accessFlags := 25, slot := 15, constantValue := 0 }, { name := "T_SHORT", type := .int, accessFlags := 25, slot := 16, constantValue := 0 }, { name := "T_INT", type := .int, accessFlags := 25, slot := 17, constantValue := 0 }, { name := "T_LONG", type := .int, accessFlags := 25, slot := 18, constantValue := 0 }, { name := "JLA", type := (.object "jdk/internal/access/JavaLangAccess"), accessFlags := 26, slot := 19, constantValue := 0 }, { name := "SOFT_MAX_ARRAY_LENGTH", type := .int, accessFlags := 25, slot := 20, constantValue := 0 }]
  methods := #[k21m0]
  instanceTypes := #[]
  staticTypes := #[(.object "jdk/internal/misc/Unsafe"), .boolean, .int, .int, .int, .int, .int, .int, .int, .int, .int, .int, .int, .int, .int, .int, .int, .int, .int, (.object "jdk/internal/access/JavaLangAccess"), .int]
  resolved := Array.replicate 378 none
  statics := none }

/-- the primitive byte -/
def k22 : Class := { plain "byte" none with kind := .primitive 'B', accessFlags := 0x411 }
/-- [B -/
def k23 : Class := { plain "[B" (some 0) with kind := .array 22 .byte, interfaces := #[16, 2], accessFlags := 1041 }

/-- the primitive char -/
def k24 : Class := { plain "char" none with kind := .primitive 'C', accessFlags := 0x411 }
/-- [C -/
def k25 : Class := { plain "[C" (some 0) with kind := .array 24 .char, interfaces := #[16, 2], accessFlags := 1041 }

/-- the primitive int -/
def k26 : Class := { plain "int" none with kind := .primitive 'I', accessFlags := 0x411 }
/-- [I -/
def k27 : Class := { plain "[I" (some 0) with kind := .array 26 .int, interfaces := #[16, 2], accessFlags := 1041 }

/-- [Ljava/lang/Object; -/
def k28 : Class := { plain "[Ljava/lang/Object;" (some 0) with kind := .array 0 (.object "java/lang/Object"), interfaces := #[16, 2], accessFlags := 1041 }

def heap : Heap := #[{ cls := 7, slots := #[.long 0, .int 1, .null, .int 0, .null, .int 0, .int 0], vm := .statics 7 },
  { cls := 17, slots := #[.long 0, .int 0, .ref 4, .ref 5], vm := .statics 17 },
  { cls := 18, slots := #[.int 0, .int 8, .int 0, .int 1], vm := .statics 18 },
  { cls := 20, slots := #[.null, .null, .null], vm := .statics 20 },
  { cls := 28, slots := #[], vm := .none },
  { cls := 28, slots := #[], vm := .none }]
def classes : Array Class := #[k0, k1, k2, k3, k4, k5, k6, k7, k8, k9, k10, k11, k12, k13, k14, k15, k16, k17, k18, k19, k20, k21, k22, k23, k24, k25, k26, k27, k28]
def interned : List (Array UInt16 × Addr) := []
def slotsUsed : Nat := 18
def theMethod : MethodId := ⟨1, 1⟩
def args0 : Array Value := #[.int 1, .int 300, .int 5, .int 7]
def aboutOver (below : List Frame) : State where
  vm := { classes := classes, interned := interned.toArray }
  heap := heap
  slotsUsed := slotsUsed
  threads := #[{ frames := .invoking theMethod args0 :: below }]
def below0 : List Frame := [.native { method := ⟨0, 0⟩, args := #[] }]
def about1 : State := aboutOver below0
def p0 : Program := .bare "" "" ""
def e0 : Env := launch0.env 0 0 0
theorem w_frames : about1.frames = Frame.invoking theMethod args0 :: below0 := rfl
set_option maxRecDepth 65536 in
theorem w_args : argsFit about1.vm theMethod args0 = true := by decide +kernel
set_option maxRecDepth 65536 in
theorem w_heap : heapFits about1 = true := by decide +kernel
set_option maxRecDepth 65536 in
theorem w_runnable : about1.curStatus? = some .runnable := by decide +kernel
set_option maxRecDepth 65536 in
theorem w_alone : about1.alone = true := by decide +kernel
set_option maxRecDepth 65536 in
theorem w_named : about1.methodNamed? x = some theMethod := by decide +kernel
set_option maxRecDepth 65536 in
theorem w_hears : about1.hears theMethod below0 = true := by decide +kernel
set_option maxRecDepth 65536 in
theorem w_ripe : about1.ripe theMethod args0 below0 = true := by decide +kernel
theorem w_running : about1.status = .running := rfl
set_option maxRecDepth 65536 in
theorem w_room : about1.hasRoom e0.platform room_1 = true :=
  launch0.hasRoom_least _ room_1 (by decide +kernel) (by decide +kernel) (by decide +kernel) (by decide +kernel) (by decide +kernel) (by decide +kernel)
theorem allAtoms_all (ts : List Jvm.Cond) (a : Array Jvm.Value) (st : Jvm.State) : (allAtoms ts).before a st = ts.all (fun c => c.before a st) := by
  induction ts with
  | nil => rfl
  | cons c t ih =>
    show (Jvm.Cond.and c (allAtoms t)).before a st = _
    rw [Jvm.Cond.before_and, ih, List.all_cons]
def words1 : List Jvm.Cond := Jvm.Cond.code x code maxLocals ret :: tables_1
/-- a 'code' word, met by the world's own term for the bytes: nothing is compared byte by byte -/
theorem code_word {y : MethodName} {bytes : ByteArray} {mx : Nat} {rt : Option FieldType} {a : Array Value} {s : State} {m : MethodId} {meth : Method} {c : Code} (h1 : s.methodNamed? y = some m) (h2 : s.vm.method? m = some meth) (h3 : meth.code = some c) (h4 : c.code = bytes)
    (h5 : (c.maxLocals == mx && c.exceptionTable.isEmpty && decide (c.maxStack ≤ mostOperands) && decide (meth.sig.returnType = rt) && !meth.locks && decide (parseMethodDescriptor y.desc = some meth.sig)) = true) : (Jvm.Cond.code y bytes mx rt).before a s = true := by
  simp only [Bool.and_eq_true, beq_iff_eq, Bool.not_eq_true', decide_eq_true_eq] at h5
  obtain ⟨⟨⟨⟨⟨g1, g2⟩, g3⟩, g4⟩, g5⟩, g6⟩ := h5
  simp [Cond.before, Cond.holds, Cond.value, h1, h2, h3, h4, g1, g2, g3, g4, g5, g6]
def isCode : Jvm.Cond → Bool
  | .code _ _ _ _ => true
  | _ => false
theorem all_split {L : List Jvm.Cond} {P : Jvm.Cond → Bool} (h1 : L.all (fun c => isCode c || P c) = true) (h2 : ∀ c ∈ L.filter isCode, P c = true) : L.all P = true := by
  refine List.all_eq_true.mpr fun c hc => ?_
  have h := List.all_eq_true.mp h1 c hc
  rcases Bool.eq_false_or_eq_true (isCode c) with hi | hi
  · exact h2 c (List.mem_filter.mpr ⟨hc, hi⟩)
  · simpa [hi] using h
set_option maxRecDepth 65536 in
theorem w_c0 : (Jvm.Cond.code x code maxLocals ret).before args0 about1 = true := code_word (m := ⟨1, 1⟩) (meth := k1m1) (c := k1c1) (by decide +kernel) rfl rfl rfl (by decide +kernel)
set_option maxRecDepth 65536 in
theorem w_c1 : (Jvm.Cond.code ({ cls := "com/example/pathstone/pathstone/NodeIsUnnamedPinLaw", name := "makeName", desc := "(ZICCC)Ljava/lang/String;" } : Jvm.MethodName) method_3_code (6 : Nat) (Option.some (Jvm.ClassFile.FieldType.object "java/lang/String"))).before args0 about1 = true := code_word (m := ⟨1, 2⟩) (meth := k1m2) (c := k1c2) (by decide +kernel) rfl rfl rfl (by decide +kernel)
set_option maxRecDepth 65536 in
theorem w_c2 : (Jvm.Cond.code ({ cls := "java/lang/String", name := "<init>", desc := "([C)V" } : Jvm.MethodName) jdk_42_method_3_code (2 : Nat) (Option.none : Option Jvm.ClassFile.FieldType)).before args0 about1 = true := code_word (m := ⟨7, 1⟩) (meth := k7m1) (c := k7c1) (by decide +kernel) rfl rfl rfl (by decide +kernel)
set_option maxRecDepth 65536 in
theorem w_c3 : (Jvm.Cond.code ({ cls := "java/lang/String", name := "<init>", desc := "([CIILjava/lang/Void;)V" } : Jvm.MethodName) jdk_42_method_149_code (6 : Nat) (Option.none : Option Jvm.ClassFile.FieldType)).before args0 about1 = true := code_word (m := ⟨7, 4⟩) (meth := k7m4) (c := k7c4) (by decide +kernel) rfl rfl rfl (by decide +kernel)
set_option maxRecDepth 65536 in
theorem w_c4 : (Jvm.Cond.code ({ cls := "java/lang/Object", name := "<init>", desc := "()V" } : Jvm.MethodName) object_method_1_code (1 : Nat) (Option.none : Option Jvm.ClassFile.FieldType)).before args0 about1 = true := code_word (m := ⟨0, 0⟩) (meth := k0m0) (c := k0c0) (by decide +kernel) rfl rfl rfl (by decide +kernel)
set_option maxRecDepth 65536 in
theorem w_c5 : (Jvm.Cond.code ({ cls := "com/example/pathstone/pathstone/Tree$Node", name := "<init>", desc := "(Ljava/lang/String;)V" } : Jvm.MethodName) prog_30_method_1_code (2 : Nat) (Option.none : Option Jvm.ClassFile.FieldType)).before args0 about1 = true := code_word (m := ⟨8, 0⟩) (meth := k8m0) (c := k8c0) (by decide +kernel) rfl rfl rfl (by decide +kernel)
set_option maxRecDepth 65536 in
theorem w_c6 : (Jvm.Cond.code ({ cls := "java/util/ArrayList", name := "<init>", desc := "()V" } : Jvm.MethodName) jdk_38_method_2_code (1 : Nat) (Option.none : Option Jvm.ClassFile.FieldType)).before args0 about1 = true := code_word (m := ⟨17, 0⟩) (meth := k17m0) (c := k17c0) (by decide +kernel) rfl rfl rfl (by decide +kernel)
set_option maxRecDepth 65536 in
theorem w_c7 : (Jvm.Cond.code ({ cls := "java/util/AbstractList", name := "<init>", desc := "()V" } : Jvm.MethodName) jdk_39_method_1_code (1 : Nat) (Option.none : Option Jvm.ClassFile.FieldType)).before args0 about1 = true := code_word (m := ⟨14, 0⟩) (meth := k14m0) (c := k14c0) (by decide +kernel) rfl rfl rfl (by decide +kernel)
set_option maxRecDepth 65536 in
theorem w_c8 : (Jvm.Cond.code ({ cls := "java/util/AbstractCollection", name := "<init>", desc := "()V" } : Jvm.MethodName) jdk_22_method_1_code (1 : Nat) (Option.none : Option Jvm.ClassFile.FieldType)).before args0 about1 = true := code_word (m := ⟨11, 0⟩) (meth := k11m0) (c := k11c0) (by decide +kernel) rfl rfl rfl (by decide +kernel)
set_option maxRecDepth 65536 in
theorem w_c9 : (Jvm.Cond.code ({ cls := "com/example/pathstone/pathstone/Tree$Node", name := "isUnnamed", desc := "()Z" } : Jvm.MethodName) prog_30_method_2_code (1 : Nat) (Option.some Jvm.ClassFile.FieldType.boolean)).before args0 about1 = true := code_word (m := ⟨8, 1⟩) (meth := k8m1) (c := k8c1) (by decide +kernel) rfl rfl rfl (by decide +kernel)
set_option maxRecDepth 65536 in
theorem w_c10 : (Jvm.Cond.code ({ cls := "java/lang/String", name := "isEmpty", desc := "()Z" } : Jvm.MethodName) jdk_42_method_55_code (1 : Nat) (Option.some Jvm.ClassFile.FieldType.boolean)).before args0 about1 = true := code_word (m := ⟨7, 2⟩) (meth := k7m2) (c := k7c2) (by decide +kernel) rfl rfl rfl (by decide +kernel)
set_option maxRecDepth 65536 in
theorem w_c11 : (Jvm.Cond.code ({ cls := "java/lang/StringUTF16", name := "compress", desc := "([CII)[B" } : Jvm.MethodName) jdk_52_method_16_code (6 : Nat) (Option.some (Jvm.ClassFile.FieldType.array Jvm.ClassFile.FieldType.byte))).before args0 about1 = true := code_word (m := ⟨18, 7⟩) (meth := k18m7) (c := k18c7) (by decide +kernel) rfl rfl rfl (by decide +kernel)
set_option maxRecDepth 65536 in
theorem w_c12 : (Jvm.Cond.code ({ cls := "java/lang/StringUTF16", name := "compress", desc := "([CI[BII)I" } : Jvm.MethodName) jdk_52_method_21_code (7 : Nat) (Option.some Jvm.ClassFile.FieldType.int)).before args0 about1 = true := code_word (m := ⟨18, 8⟩) (meth := k18m8) (c := k18c8) (by decide +kernel) rfl rfl rfl (by decide +kernel)
set_option maxRecDepth 65536 in
theorem w_c13 : (Jvm.Cond.code ({ cls := "java/lang/StringUTF16", name := "toBytes", desc := "([CII)[B" } : Jvm.MethodName) jdk_52_method_14_code (5 : Nat) (Option.some (Jvm.ClassFile.FieldType.array Jvm.ClassFile.FieldType.byte))).before args0 about1 = true := code_word (m := ⟨18, 5⟩) (meth := k18m5) (c := k18c5) (by decide +kernel) rfl rfl rfl (by decide +kernel)
set_option maxRecDepth 65536 in
theorem w_c14 : (Jvm.Cond.code ({ cls := "java/lang/StringUTF16", name := "newBytesFor", desc := "(I)[B" } : Jvm.MethodName) jdk_52_method_2_code (1 : Nat) (Option.some (Jvm.ClassFile.FieldType.array Jvm.ClassFile.FieldType.byte))).before args0 about1 = true := code_word (m := ⟨18, 1⟩) (meth := k18m1) (c := k18c1) (by decide +kernel) rfl rfl rfl (by decide +kernel)
set_option maxRecDepth 65536 in
theorem w_c15 : (Jvm.Cond.code ({ cls := "java/lang/StringUTF16", name := "newBytesLength", desc := "(I)I" } : Jvm.MethodName) jdk_52_method_3_code (1 : Nat) (Option.some Jvm.ClassFile.FieldType.int)).before args0 about1 = true := code_word (m := ⟨18, 2⟩) (meth := k18m2) (c := k18c2) (by decide +kernel) rfl rfl rfl (by decide +kernel)
set_option maxRecDepth 65536 in
theorem w_c16 : (Jvm.Cond.code ({ cls := "java/lang/StringUTF16", name := "putChar", desc := "([BII)V" } : Jvm.MethodName) jdk_52_method_4_code (3 : Nat) (Option.none : Option Jvm.ClassFile.FieldType)).before args0 about1 = true := code_word (m := ⟨18, 3⟩) (meth := k18m3) (c := k18c3) (by decide +kernel) rfl rfl rfl (by decide +kernel)
set_option maxRecDepth 65536 in
theorem w_c17 : (Jvm.Cond.code ({ cls := "java/lang/StringUTF16", name := "getChar", desc := "([BI)C" } : Jvm.MethodName) jdk_52_method_5_code (2 : Nat) (Option.some Jvm.ClassFile.FieldType.char)).before args0 about1 = true := code_word (m := ⟨18, 4⟩) (meth := k18m4) (c := k18c4) (by decide +kernel) rfl rfl rfl (by decide +kernel)
set_option maxRecDepth 65536 in
theorem w_c18 : (Jvm.Cond.code ({ cls := "java/lang/StringUTF16", name := "coderFromArrayLen", desc := "([BI)B" } : Jvm.MethodName) jdk_52_method_15_code (2 : Nat) (Option.some Jvm.ClassFile.FieldType.byte)).before args0 about1 = true := code_word (m := ⟨18, 6⟩) (meth := k18m6) (c := k18c6) (by decide +kernel) rfl rfl rfl (by decide +kernel)
set_option maxRecDepth 65536 in
theorem w_c19 : (Jvm.Cond.code ({ cls := "java/lang/String", name := "valueOf", desc := "(C)Ljava/lang/String;" } : Jvm.MethodName) jdk_42_method_139_code (1 : Nat) (Option.some (Jvm.ClassFile.FieldType.object "java/lang/String"))).before args0 about1 = true := code_word (m := ⟨7, 3⟩) (meth := k7m3) (c := k7c3) (by decide +kernel) rfl rfl rfl (by decide +kernel)
set_option maxRecDepth 65536 in
theorem w_c20 : (Jvm.Cond.code ({ cls := "java/lang/StringLatin1", name := "canEncode", desc := "(C)Z" } : Jvm.MethodName) jdk_43_method_3_code (1 : Nat) (Option.some Jvm.ClassFile.FieldType.boolean)).before args0 about1 = true := code_word (m := ⟨19, 1⟩) (meth := k19m1) (c := k19c1) (by decide +kernel) rfl rfl rfl (by decide +kernel)
set_option maxRecDepth 65536 in
theorem w_c21 : (Jvm.Cond.code ({ cls := "java/lang/StringLatin1", name := "toBytes", desc := "(C)[B" } : Jvm.MethodName) jdk_43_method_46_code (1 : Nat) (Option.some (Jvm.ClassFile.FieldType.array Jvm.ClassFile.FieldType.byte))).before args0 about1 = true := code_word (m := ⟨19, 2⟩) (meth := k19m2) (c := k19c2) (by decide +kernel) rfl rfl rfl (by decide +kernel)
set_option maxRecDepth 65536 in
theorem w_c22 : (Jvm.Cond.code ({ cls := "java/lang/String", name := "<init>", desc := "([BB)V" } : Jvm.MethodName) jdk_42_method_151_code (3 : Nat) (Option.none : Option Jvm.ClassFile.FieldType)).before args0 about1 = true := code_word (m := ⟨7, 5⟩) (meth := k7m5) (c := k7c5) (by decide +kernel) rfl rfl rfl (by decide +kernel)
set_option maxRecDepth 65536 in
theorem w_c23 : (Jvm.Cond.code ({ cls := "java/lang/StringUTF16", name := "toBytes", desc := "(C)[B" } : Jvm.MethodName) jdk_52_method_24_code (2 : Nat) (Option.some (Jvm.ClassFile.FieldType.array Jvm.ClassFile.FieldType.byte))).before args0 about1 = true := code_word (m := ⟨18, 9⟩) (meth := k18m9) (c := k18c9) (by decide +kernel) rfl rfl rfl (by decide +kernel)
def codes1 : List Jvm.Cond := [Jvm.Cond.code x code maxLocals ret, Jvm.Cond.code ({ cls := "com/example/pathstone/pathstone/NodeIsUnnamedPinLaw", name := "makeName", desc := "(ZICCC)Ljava/lang/String;" } : Jvm.MethodName) method_3_code (6 : Nat) (Option.some (Jvm.ClassFile.FieldType.object "java/lang/String")), Jvm.Cond.code ({ cls := "java/lang/String", name := "<init>", desc := "([C)V" } : Jvm.MethodName) jdk_42_method_3_code (2 : Nat) (Option.none : Option Jvm.ClassFile.FieldType), Jvm.Cond.code ({ cls := "java/lang/String", name := "<init>", desc := "([CIILjava/lang/Void;)V" } : Jvm.MethodName) jdk_42_method_149_code (6 : Nat) (Option.none : Option Jvm.ClassFile.FieldType), Jvm.Cond.code ({ cls := "java/lang/Object", name := "<init>", desc := "()V" } : Jvm.MethodName) object_method_1_code (1 : Nat) (Option.none : Option Jvm.ClassFile.FieldType), Jvm.Cond.code ({ cls := "com/example/pathstone/pathstone/Tree$Node", name := "<init>", desc := "(Ljava/lang/String;)V" } : Jvm.MethodName) prog_30_method_1_code (2 : Nat) (Option.none : Option Jvm.ClassFile.FieldType), Jvm.Cond.code ({ cls := "java/util/ArrayList", name := "<init>", desc := "()V" } : Jvm.MethodName) jdk_38_method_2_code (1 : Nat) (Option.none : Option Jvm.ClassFile.FieldType), Jvm.Cond.code ({ cls := "java/util/AbstractList", name := "<init>", desc := "()V" } : Jvm.MethodName) jdk_39_method_1_code (1 : Nat) (Option.none : Option Jvm.ClassFile.FieldType), Jvm.Cond.code ({ cls := "java/util/AbstractCollection", name := "<init>", desc := "()V" } : Jvm.MethodName) jdk_22_method_1_code (1 : Nat) (Option.none : Option Jvm.ClassFile.FieldType), Jvm.Cond.code ({ cls := "com/example/pathstone/pathstone/Tree$Node", name := "isUnnamed", desc := "()Z" } : Jvm.MethodName) prog_30_method_2_code (1 : Nat) (Option.some Jvm.ClassFile.FieldType.boolean), Jvm.Cond.code ({ cls := "java/lang/String", name := "isEmpty", desc := "()Z" } : Jvm.MethodName) jdk_42_method_55_code (1 : Nat) (Option.some Jvm.ClassFile.FieldType.boolean), Jvm.Cond.code ({ cls := "java/lang/StringUTF16", name := "compress", desc := "([CII)[B" } : Jvm.MethodName) jdk_52_method_16_code (6 : Nat) (Option.some (Jvm.ClassFile.FieldType.array Jvm.ClassFile.FieldType.byte)), Jvm.Cond.code ({ cls := "java/lang/StringUTF16", name := "compress", desc := "([CI[BII)I" } : Jvm.MethodName) jdk_52_method_21_code (7 : Nat) (Option.some Jvm.ClassFile.FieldType.int), Jvm.Cond.code ({ cls := "java/lang/StringUTF16", name := "toBytes", desc := "([CII)[B" } : Jvm.MethodName) jdk_52_method_14_code (5 : Nat) (Option.some (Jvm.ClassFile.FieldType.array Jvm.ClassFile.FieldType.byte)), Jvm.Cond.code ({ cls := "java/lang/StringUTF16", name := "newBytesFor", desc := "(I)[B" } : Jvm.MethodName) jdk_52_method_2_code (1 : Nat) (Option.some (Jvm.ClassFile.FieldType.array Jvm.ClassFile.FieldType.byte)), Jvm.Cond.code ({ cls := "java/lang/StringUTF16", name := "newBytesLength", desc := "(I)I" } : Jvm.MethodName) jdk_52_method_3_code (1 : Nat) (Option.some Jvm.ClassFile.FieldType.int), Jvm.Cond.code ({ cls := "java/lang/StringUTF16", name := "putChar", desc := "([BII)V" } : Jvm.MethodName) jdk_52_method_4_code (3 : Nat) (Option.none : Option Jvm.ClassFile.FieldType), Jvm.Cond.code ({ cls := "java/lang/StringUTF16", name := "getChar", desc := "([BI)C" } : Jvm.MethodName) jdk_52_method_5_code (2 : Nat) (Option.some Jvm.ClassFile.FieldType.char), Jvm.Cond.code ({ cls := "java/lang/StringUTF16", name := "coderFromArrayLen", desc := "([BI)B" } : Jvm.MethodName) jdk_52_method_15_code (2 : Nat) (Option.some Jvm.ClassFile.FieldType.byte), Jvm.Cond.code ({ cls := "java/lang/String", name := "valueOf", desc := "(C)Ljava/lang/String;" } : Jvm.MethodName) jdk_42_method_139_code (1 : Nat) (Option.some (Jvm.ClassFile.FieldType.object "java/lang/String")), Jvm.Cond.code ({ cls := "java/lang/StringLatin1", name := "canEncode", desc := "(C)Z" } : Jvm.MethodName) jdk_43_method_3_code (1 : Nat) (Option.some Jvm.ClassFile.FieldType.boolean), Jvm.Cond.code ({ cls := "java/lang/StringLatin1", name := "toBytes", desc := "(C)[B" } : Jvm.MethodName) jdk_43_method_46_code (1 : Nat) (Option.some (Jvm.ClassFile.FieldType.array Jvm.ClassFile.FieldType.byte)), Jvm.Cond.code ({ cls := "java/lang/String", name := "<init>", desc := "([BB)V" } : Jvm.MethodName) jdk_42_method_151_code (3 : Nat) (Option.none : Option Jvm.ClassFile.FieldType), Jvm.Cond.code ({ cls := "java/lang/StringUTF16", name := "toBytes", desc := "(C)[B" } : Jvm.MethodName) jdk_52_method_24_code (2 : Nat) (Option.some (Jvm.ClassFile.FieldType.array Jvm.ClassFile.FieldType.byte))]
set_option maxRecDepth 65536 in
theorem codes_eq : words1.filter isCode = codes1 := rfl
theorem w_codes : ∀ c ∈ words1.filter isCode, c.before args0 about1 = true := by
  rw [codes_eq]
  intro c hc
  simp only [codes1, List.mem_cons, List.not_mem_nil, or_false] at hc
  rcases hc with rfl | rfl | rfl | rfl | rfl | rfl | rfl | rfl | rfl | rfl | rfl | rfl | rfl | rfl | rfl | rfl | rfl | rfl | rfl | rfl | rfl | rfl | rfl | rfl
  · exact w_c0
  · exact w_c1
  · exact w_c2
  · exact w_c3
  · exact w_c4
  · exact w_c5
  · exact w_c6
  · exact w_c7
  · exact w_c8
  · exact w_c9
  · exact w_c10
  · exact w_c11
  · exact w_c12
  · exact w_c13
  · exact w_c14
  · exact w_c15
  · exact w_c16
  · exact w_c17
  · exact w_c18
  · exact w_c19
  · exact w_c20
  · exact w_c21
  · exact w_c22
  · exact w_c23
set_option maxRecDepth 65536 in
theorem w_t1 : (words1.take 24).all (fun c => isCode c || c.before args0 about1) = true := by decide +kernel
set_option maxRecDepth 65536 in
theorem w_t2 : ((words1.drop 24).take 24).all (fun c => isCode c || c.before args0 about1) = true := by decide +kernel
set_option maxRecDepth 65536 in
theorem w_t3 : (((words1.drop 24).drop 24).take 24).all (fun c => isCode c || c.before args0 about1) = true := by decide +kernel
set_option maxRecDepth 65536 in
theorem w_t4 : ((((words1.drop 24).drop 24).drop 24).take 24).all (fun c => isCode c || c.before args0 about1) = true := by decide +kernel
set_option maxRecDepth 65536 in
theorem w_t5 : (((((words1.drop 24).drop 24).drop 24).drop 24).take 24).all (fun c => isCode c || c.before args0 about1) = true := by decide +kernel
set_option maxRecDepth 65536 in
theorem w_t6 : (((((words1.drop 24).drop 24).drop 24).drop 24).drop 24).all (fun c => isCode c || c.before args0 about1) = true := by decide +kernel
theorem w_tables : (allAtoms (Jvm.Cond.code x code maxLocals ret :: tables_1)).before args0 about1 = true := by
  rw [allAtoms_all]
  show words1.all (fun c => c.before args0 about1) = true
  refine all_split ?_ w_codes
  rw [← List.take_append_drop 24 words1, List.all_append, w_t1, ← List.take_append_drop 24 (words1.drop 24), List.all_append, w_t2, ← List.take_append_drop 24 ((words1.drop 24).drop 24), List.all_append, w_t3, ← List.take_append_drop 24 (((words1.drop 24).drop 24).drop 24), List.all_append, w_t4, ← List.take_append_drop 24 ((((words1.drop 24).drop 24).drop 24).drop 24), List.all_append, w_t5, w_t6]
  rfl
set_option maxRecDepth 65536 in
theorem w_rest : rest_1_c.before args0 about1 = true := by decide +kernel
set_option maxRecDepth 65536 in
theorem w_case : (Jvm.Cond.and given_1 narrow_1).before args0 about1 = true := by decide +kernel
set_option maxRecDepth 65536 in
theorem w_consts : constsHeld consts_1 about1 := Jvm.Lit.constsHeldB_iff.mp (by decide +kernel)
theorem w_applies : (headSpec (Jvm.Cond.code x code maxLocals ret :: tables_1) room_1).applies x e0.platform about1 = true :=
  (Spec.applies_iff w_frames).mpr ⟨w_running, w_runnable, w_alone, w_named, w_hears, w_ripe, w_room, w_tables⟩
theorem atStart : AtStart classFile x code maxLocals ret World_1 tables_1 room_1 Calls_1 rest_1 Pre_1 launch0 p0 e0 about1 theMethod args0 below0 :=
  ⟨lists_1, trivial, launch0.admits_env _ _ _, launch0.least_env, fairChoices_fair.cas, fairChoices_fair.clock, w_frames, w_args, w_heap, w_applies, ⟨w_consts, trivial⟩, w_rest, w_case⟩
end start1
theorem witness_1 : WitnessClaimed_1 := ⟨start1.p0, start1.e0, start1.about1, start1.theMethod, start1.args0, start1.below0, start1.atStart⟩
end Jvm.Pilot.@@N@@
