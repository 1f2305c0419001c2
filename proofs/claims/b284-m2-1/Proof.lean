import JvmDerived
import JvmDerived.Pilot.@@N@@Statement
import JvmDerived.Pilot.@@N@@Code
set_option linter.unusedVariables false
set_option linter.unusedSimpArgs false
@@BLOCK:NumsL.lean.txt@@
/- laws to paste: pair_says, shr0 (cut by pick.py; bodies as the Statement names them) -/
namespace Jvm.Pilot.@@N@@
namespace StrChars
open Jvm Sem ClassFile Op Lib Jvm.Stand Jvm.Free.XT Jvm.Free.ALB Jvm.Free.JM Jvm.Free
open Jvm.Lib.Cold (StaticIs)
/-- the byte that i2b leaves of a char -/
def lo8 (x : Int32) : Int32 := x.toInt8.toInt32
end StrChars
namespace StrChars
open Jvm Sem ClassFile Op Lib Jvm.Stand Jvm.Free.XT Jvm.Free.ALB Jvm.Free.JM Jvm.Free
open Jvm.Lib.Cold (StaticIs)
def hi8 (x : Int32) : Int32 := lo8 (x >>> ((8 : Int32) &&& 31))
/-- what StringUTF16.getChar makes of two bytes -/
def pairCh (u v : Int32) : Int32 := (((u &&& 255) <<< ((0 : Int32) &&& 31)) ||| ((v &&& 255) <<< ((8 : Int32) &&& 31))).toUInt32.toUInt16.toUInt32.toInt32
theorem shr0 (c : Int32) : c >>> ((0 : Int32) &&& 31) = c := by
  have e : ((0 : Int32) &&& 31) = 0 := by decide
  rw [e]
  apply Int32.toBitVec_inj.mp
  rw [Int32.toBitVec_shiftRight]
  have e1 : ((0 : Int32).toBitVec.smod 32) = 0#32 := by decide
  rw [e1, BitVec.sshiftRight_eq']
  exact BitVec.sshiftRight_zero
theorem lo8_and (x : Int32) : (lo8 x &&& 255).toBitVec.toNat = x.toBitVec.toNat % 256 := by
  have h : (lo8 x).toBitVec = (x.toBitVec.signExtend 8).signExtend 32 := by rw [lo8, Int8.toBitVec_toInt32, Int32.toBitVec_toInt8]
  rw [Int32.toBitVec_and, BitVec.toNat_and, h]
  have e : ((x.toBitVec.signExtend 8).signExtend 32).toNat % 256 = x.toBitVec.toNat % 256 := by
    rw [BitVec.toNat_signExtend]
    have hlt := x.toBitVec.isLt
    simp only [BitVec.toNat_setWidth, BitVec.toNat_signExtend]
    split <;> split <;> omega
  rw [← e]
  exact Nat.and_two_pow_sub_one_eq_mod _ 8
theorem pair_says {c : Int32} (h0 : ¬ c < 0) (h1 : ¬ 65535 < c) : pairCh (lo8 c) (hi8 c) = c := by
  rw [Int32.lt_iff_toInt_lt] at h0 h1
  have e0 : (0 : Int32).toInt = 0 := rfl
  have e1 : (65535 : Int32).toInt = 65535 := rfl
  have hc : c.toInt = c.toBitVec.toNat := by
    have := c.toBitVec.isLt
    have e : c.toInt = c.toBitVec.toInt := rfl
    rw [e] at h0 h1
    rw [e]
    rw [BitVec.toInt_eq_toNat_cond] at h0 h1 ⊢
    split at h0 <;> split <;> omega
  have hn : c.toBitVec.toNat < 65536 := by omega
  have a1 := lo8_and c
  have a2 : (hi8 c &&& 255).toBitVec.toNat = c.toBitVec.toNat / 256 := by
    rw [hi8, lo8_and]
    have e : ((8 : Int32) &&& 31) = 8 := by decide
    rw [e, Int32.toBitVec_shiftRight]
    have e2 : ((8 : Int32).toBitVec.smod 32) = 8#32 := by decide
    rw [e2, BitVec.sshiftRight_eq', BitVec.toNat_sshiftRight_of_msb_false (by rw [BitVec.msb_eq_false_iff_two_mul_lt]; omega)]
    show c.toBitVec.toNat >>> 8 % 256 = _
    rw [Nat.shiftRight_eq_div_pow]
    omega
  unfold pairCh
  apply Int32.toBitVec_inj.mp
  apply BitVec.eq_of_toNat_eq
  have f0 : ((0 : Int32) &&& 31) = 0 := by decide
  have f8 : ((8 : Int32) &&& 31) = 8 := by decide
  rw [f0, f8]
  have g : (((lo8 c &&& 255) <<< (0 : Int32)) ||| ((hi8 c &&& 255) <<< (8 : Int32))).toBitVec.toNat = c.toBitVec.toNat := by
    rw [Int32.toBitVec_or, Int32.toBitVec_shiftLeft, Int32.toBitVec_shiftLeft]
    have s0 : ((0 : Int32).toBitVec.smod 32) = 0#32 := by decide
    have s8 : ((8 : Int32).toBitVec.smod 32) = 8#32 := by decide
    rw [s0, s8, BitVec.toNat_or]
    simp only [BitVec.shiftLeft_eq', BitVec.toNat_shiftLeft, a1, a2]
    show (c.toBitVec.toNat % 256) <<< 0 % 2 ^ 32 ||| (c.toBitVec.toNat / 256) <<< 8 % 2 ^ 32 = _
    rw [Nat.shiftLeft_zero, Nat.mod_eq_of_lt (show c.toBitVec.toNat % 256 < 2 ^ 32 by omega), Nat.mod_eq_of_lt (show (c.toBitVec.toNat / 256) <<< 8 < 2 ^ 32 by rw [Nat.shiftLeft_eq]; omega), Nat.or_comm, ← Nat.shiftLeft_add_eq_or_of_lt (by omega), Nat.shiftLeft_eq]
    omega
  show BitVec.toNat (((((lo8 c &&& 255) <<< (0 : Int32)) ||| ((hi8 c &&& 255) <<< (8 : Int32))).toBitVec.setWidth 16).setWidth 32) = _
  rw [BitVec.toNat_setWidth, BitVec.toNat_setWidth, g]
  omega
end StrChars
end Jvm.Pilot.@@N@@
namespace Jvm.Pilot.@@N@@
open Jvm Jvm.ClassFile Sem Op Lib Jvm.Free Jvm.Stand Jvm.LawKit Jvm.RoadKit Bundle Jvm.Pilot.@@N@@.Jvm.D
set_option maxRecDepth 65536
set_option maxHeartbeats 40000000
section Own
variable {p : Program} {l : Launch} {e : Env} {R : Room} {s : State} {m : MethodId} {args : Array Value} {below : List Frame} {meth : Method} {c : Code} {T : State} {locs : List Loc} {cells slots : Nat} {Z : State} {a0 : Array Value} {h : Heap}
/-- from S the invocation ends, and G holds of the end -/
def Gl (p : Program) (e : Env) (below : List Frame) (G : State → Outcome → Prop) (S : State) : Prop :=
  ∃ s₂ o, Steps p.tables e below S s₂ ∧ s₂.status = .running ∧ Ended s₂ below o ∧ G s₂ o
theorem Gl.of {G : State → Outcome → Prop} {S S' : State} (h : ∀ t, Steps p.tables e below S' t → Steps p.tables e below S t) (g : Gl p e below G S') : Gl p e below G S := by
  obtain ⟨s2, o, a, b⟩ := g
  exact ⟨s2, o, h _ a, b⟩
def Gd (s : State) (Q : Option Value → Heap → List Loc → Prop) (C N : Nat) (t : State) (o : Outcome) : Prop := ∃ v L, o = .returned v ∧ Q v t.heap L ∧ FrameEnd s o t L C N
def Con (l : Launch) (Z : State) (y : MethodName) (bytes : ByteArray) (maxL : Nat) (rt : Option FieldType) (ws : List Jvm.Cond) (rm : Room) (C N : Nat) (as : Array Value) (h : Heap) (Q : Option Value → Heap → List Loc → Prop) : Prop :=
  MetFree l y (head1 (Jvm.Cond.code y bytes maxL rt :: ws) rm) (fun a U => a = as ∧ Z.Warmed39 U.vm ∧ U.heap = h) (fun _ _ _ _ _ => True) (fun _ U o U' => ∃ v L, o = .returned v ∧ Q v U'.heap L ∧ FrameEnd U o U' L C N)
theorem Con.intro {y : MethodName} {bytes : ByteArray} {maxL : Nat} {rt : Option FieldType} {ws : List Jvm.Cond} {rm : Room} {C N : Nat} {as : Array Value} {Q : Option Value → Heap → List Loc → Prop} (hp : plainFor y = true)
    (body : ∀ p e s m below meth c s₁, Stand p l e rm s m as below meth c s₁ [] 0 0 → p.tables.exec = Jvm.exec → c.code = bytes → c.maxLocals = maxL → Z.Warmed39 s.vm → s.vm.findClass y.cls = some m.cls → meth.name = y.name → meth.sig.returnType = rt → meth.locks = false → s₁.heap = h → s.heap = h →
      Gl p e below (Gd s Q C N) (s₁.setTop (entryFrame m as maxL))) : Con l Z y bytes maxL rt ws rm C N as h Q := by
  refine MetFree.of_bodySF hp hisR ?_
  intro p e s m args below meth c s₁ Bd hml0 hP hK
  obtain ⟨rfl, hZ, hh⟩ := hP
  exact body p e s m below meth c s₁ (Stand.of_body Bd) Bd.exec Bd.bytes hml0 hZ (findClass_of_methodNamed Bd.named) (name_of_methodNamed Bd.named Bd.method).1 Bd.returns (BodyLoose.notSynchronized Bd) (by rw [← hh, Bd.state]; rfl) hh
theorem Gl.leaf {Q : Option Value → Heap → List Loc → Prop} {C N : Nat} (X : Stand p l e R s m args below meth c T locs cells slots) (hlk : meth.locks = false) {v : Option Value} (hv : meth.sig.returnType = none → v = none) {S : State}
    (st : ∀ fs, (∀ (f : JFrame) (acts : List Action), f.method = m → f.locked = none → f.entered = [] → (doReturn e (T.setTop f) acts v).1 = T.setFrames fs) → Steps p.tables e below S (T.setFrames fs)) (eT : T.heap = h) (hQ : Q v h locs) (hC : cells ≤ C) (hN : slots ≤ N) : Gl p e below (Gd s Q C N) S := by
  obtain ⟨fs, hr, hrun, hended, hW, hsame⟩ := X.leave (v := v) hv hlk
  exact ⟨_, _, st fs hr, hrun, hended, v, locs, rfl, by show Q v T.heap locs; rw [eT]; exact hQ, ⟨_, rfl⟩, hW, hsame.mono hC hN⟩
/-- ireturn of an int -/
theorem Gl.retI {Q : Option Value → Heap → List Loc → Prop} {C N : Nat} (X : Stand p l e R s m args below meth c T locs cells slots) (hx : p.tables.exec = Jvm.exec) (hlk : meth.locks = false) (hret : meth.sig.returnType = some .int) {pc : Nat} {Ls : Array Slot} {z : Int32} {rest : List Value} (hd : decode c.code pc = .ok (.ireturn, 1))
    (eT : T.heap = h) (hQ : Q (some (.int z)) h locs) (hC : cells ≤ C) (hN : slots ≤ N) : Gl p e below (Gd s Q C N) (T.setTop (mkF m pc Ls (.int z :: rest))) :=
  Gl.leaf X hlk (fun q => by rw [hret] at q; cases q) (fun fs hr => retOut X hx hret rfl (Or.inl ⟨rfl, Or.inl rfl, z, rfl⟩) hd hr) eT hQ hC hN
/-- ireturn of a boolean, byte, char, short -/
theorem Gl.retN {Q : Option Value → Heap → List Loc → Prop} {C N : Nat} (X : Stand p l e R s m args below meth c T locs cells slots) (hx : p.tables.exec = Jvm.exec) (hlk : meth.locks = false) {t : FieldType} (hret : meth.sig.returnType = some t) (ht : t = .boolean ∨ t = .byte ∨ t = .char ∨ t = .short) {pc : Nat} {Ls : Array Slot} {z : Int32} {rest : List Value} (hd : decode c.code pc = .ok (.ireturn, 1))
    (eT : T.heap = h) (hQ : Q (some (.int (nar t z))) h locs) (hC : cells ≤ C) (hN : slots ≤ N) : Gl p e below (Gd s Q C N) (T.setTop (mkF m pc Ls (.int z :: rest))) :=
  Gl.leaf X hlk (fun q => by rw [hret] at q; cases q) (fun fs hr => Jvm.RoadKit.retN X hx hret ht hd hr) eT hQ hC hN
/-- areturn -/
theorem Gl.retR {Q : Option Value → Heap → List Loc → Prop} {C N : Nat} (X : Stand p l e R s m args below meth c T locs cells slots) (hx : p.tables.exec = Jvm.exec) (hlk : meth.locks = false) {t : FieldType} (hret : meth.sig.returnType = some t) (ht : t.isReference = true) {pc : Nat} {Ls : Array Slot} {w : Value} (hw : w.isRef = true) {rest : List Value} (hd : decode c.code pc = .ok (.areturn, 1))
    (eT : T.heap = h) (hQ : Q (some w) h locs) (hC : cells ≤ C) (hN : slots ≤ N) : Gl p e below (Gd s Q C N) (T.setTop (mkF m pc Ls (w :: rest))) :=
  Gl.leaf X hlk (fun q => by rw [hret] at q; cases q) (fun fs hr => retOut X hx hret (by cases t <;> first | (cases ht; done) | (rcases ref_cases hw with rfl | ⟨_, rfl⟩ <;> rfl)) (Or.inr (Or.inr (Or.inr (Or.inr ⟨rfl, ht, hw⟩)))) hd hr) eT hQ hC hN
/-- return -/
theorem Gl.ret0 {Q : Option Value → Heap → List Loc → Prop} {C N : Nat} (X : Stand p l e R s m args below meth c T locs cells slots) (hx : p.tables.exec = Jvm.exec) (hlk : meth.locks = false) (hret : meth.sig.returnType = none) {pc : Nat} {Ls : Array Slot} (hd : decode c.code pc = .ok (.return_, 1))
    (eT : T.heap = h) (hQ : Q none h locs) (hC : cells ≤ C) (hN : slots ≤ N) : Gl p e below (Gd s Q C N) (T.setTop (mkF m pc Ls [])) :=
  Gl.leaf X hlk (fun _ => rfl) (fun fs hr => X.returnOut hx hret hd hr) eT hQ hC hN
/-- the end of a walk that may have interned -/
def GdW (s : State) (Q : Option Value → Heap → List Loc → Prop) (C N : Nat) (t : State) (o : Outcome) : Prop := ∃ v L, o = .returned v ∧ Q v t.heap L ∧ ReturnedEndW s o t L C N
theorem Gl.leafW {Q : Option Value → Heap → List Loc → Prop} {C N n : Nat} {vm₁ : Vm} (X : Stand p l e R (s.setVm vm₁) m args below meth c T locs cells slots) (hlk : meth.locks = false) {v : Option Value} (hv : meth.sig.returnType = none → v = none) {S : State}
    (st : ∀ fs, (∀ (f : JFrame) (acts : List Action), f.method = m → f.locked = none → f.entered = [] → (doReturn e (T.setTop f) acts v).1 = T.setFrames fs) → Steps p.tables e below S (T.setFrames fs)) (eT : T.heap = h) (hQ : Q v h locs) (hS : s.Since vm₁ n) (hn : n ≤ h.size) (hC : cells ≤ C) (hN : slots ≤ N) : Gl p e below (GdW s Q C N) S := by
  obtain ⟨fs, hr, hrun, hended, hW⟩ := X.leaveW hS (by rw [eT]; exact hn) (v := v) hv hlk
  exact ⟨_, _, st fs hr, hrun, hended, v, locs, rfl, by show Q v T.heap locs; rw [eT]; exact hQ, hW.1, hW.2.1, hW.2.2.1, hW.2.2.2.mono hC hN⟩
theorem Gl.retNW {Q : Option Value → Heap → List Loc → Prop} {C N n : Nat} {vm₁ : Vm} (X : Stand p l e R (s.setVm vm₁) m args below meth c T locs cells slots) (hx : p.tables.exec = Jvm.exec) (hlk : meth.locks = false) {t : FieldType} (hret : meth.sig.returnType = some t) (ht : t = .boolean ∨ t = .byte ∨ t = .char ∨ t = .short) {pc : Nat} {Ls : Array Slot} {z : Int32} {rest : List Value} (hd : decode c.code pc = .ok (.ireturn, 1))
    (eT : T.heap = h) (hQ : Q (some (.int (nar t z))) h locs) (hS : s.Since vm₁ n) (hn : n ≤ h.size) (hC : cells ≤ C) (hN : slots ≤ N) : Gl p e below (GdW s Q C N) (T.setTop (mkF m pc Ls (.int z :: rest))) :=
  Gl.leafW X hlk (fun q => by rw [hret] at q; cases q) (fun fs hr => Jvm.RoadKit.retN X hx hret ht hd hr) eT hQ hS hn hC hN
theorem Gl.retRW {Q : Option Value → Heap → List Loc → Prop} {C N n : Nat} {vm₁ : Vm} (X : Stand p l e R (s.setVm vm₁) m args below meth c T locs cells slots) (hx : p.tables.exec = Jvm.exec) (hlk : meth.locks = false) {t : FieldType} (hret : meth.sig.returnType = some t) (ht : t.isReference = true) {pc : Nat} {Ls : Array Slot} {w : Value} (hw : w.isRef = true) {rest : List Value} (hd : decode c.code pc = .ok (.areturn, 1))
    (eT : T.heap = h) (hQ : Q (some w) h locs) (hS : s.Since vm₁ n) (hn : n ≤ h.size) (hC : cells ≤ C) (hN : slots ≤ N) : Gl p e below (GdW s Q C N) (T.setTop (mkF m pc Ls (w :: rest))) :=
  Gl.leafW X hlk (fun q => by rw [hret] at q; cases q) (fun fs hr => retOut X hx hret (by cases t <;> first | (cases ht; done) | (rcases ref_cases hw with rfl | ⟨_, rfl⟩ <;> rfl)) (Or.inr (Or.inr (Or.inr (Or.inr ⟨rfl, ht, hw⟩)))) hd hr) eT hQ hS hn hC hN
theorem ref_nar {r : Value} {C : String} (h : r.isRef = true) : narrow (.object C) r = r := by rcases ref_cases h with rfl | ⟨_, rfl⟩ <;> rfl
theorem ref_fit {r : Value} {C : String} (h : r.isRef = true) : fits (.object C) r = true := by rcases ref_cases h with rfl | ⟨_, rfl⟩ <;> rfl
theorem cat_ref {r : Value} (h : r.isRef = true) : r.category = 1 := by rcases ref_cases h with rfl | ⟨_, rfl⟩ <;> rfl
/-- what a callee that writes and makes nothing leaves -/
def Pur (F : Option Value → Prop) (h0 : Heap) (v : Option Value) (h : Heap) (L : List Loc) : Prop := F v ∧ h = h0 ∧ L = []
theorem desc_ne {n : String} (h : (n == "java/lang/invoke/MethodHandle" || n == "java/lang/invoke/VarHandle") = false) : n ≠ "java/lang/invoke/MethodHandle" ∧ n ≠ "java/lang/invoke/VarHandle" := by
  simp only [Bool.or_eq_false_iff, beq_eq_false_iff_ne, ne_eq] at h
  exact h
/-- a static call by its contract -/
theorem Gl.callS {G : State → Outcome → Prop} (X : Stand p l e R s m args below meth c T locs cells slots) (hx : p.tables.exec = Jvm.exec) (hZ : Z.Warmed39 s.vm) {own : String} {index : Nat} {y : MethodName} {bytes : ByteArray} {maxL : Nat} {rt : Option FieldType} (hown : s.vm.findClass own = some m.cls)
    (w1 : (Jvm.Cond.methodLink own index y).before a0 Z = true) (w2 : (Jvm.Cond.static y).before a0 Z = true) (w3 : (Jvm.Cond.initialized y.cls).before a0 Z = true) (w4 : (Jvm.Cond.code y bytes maxL rt).before a0 Z = true) (hy : y.cls ≠ "java/lang/invoke/MethodHandle" ∧ y.cls ≠ "java/lang/invoke/VarHandle")
    {rm : Room} {Q : Option Value → Heap → List Loc → Prop} {argsL rest : List Value} (hM : Con l Z y bytes maxL rt [] rm rm.cells rm.slots argsL.toArray h Q) (W : Nat) (hf : rm.frames + 1 ≤ R.frames) (hl : W + (maxL + 11) + rm.locals ≤ R.locals) (hcl : cells + rm.cells ≤ R.cells) (hsl : slots + rm.slots ≤ R.slots) (eT : T.heap = h)
    {pc : Nat} {Ls : Array Slot} {st : List Value} (hsz : Ls.size = c.maxLocals) {ps : List FieldType} {r' : Option FieldType} (hds : parseMethodDescriptor y.desc = some ⟨ps, r'⟩) (hlen : argsL.length = ps.length) (hst : st = argsL.reverse ++ rest) (hW : 2 * 0 + (rest.map fun v => v.category).sum ≤ W) (hd : decode c.code pc = .ok (.invokestatic index, 3))
    (k : ∀ (v : Option Value) (T' : State) (L : List Loc), Stand p l e R s m args below meth c T' (locs ++ L) (cells + rm.cells) (slots + rm.slots) → Q v T'.heap L → Gl p e below G (T'.setTop (mkF m (pc + 3) Ls (v.toList ++ rest)))) : Gl p e below G (T.setTop (mkF m pc Ls st)) := by
  obtain ⟨v, _, ⟨T', L', k', n'⟩, -, X', ⟨Lc, hQ, l1, y1, z1⟩, stp⟩ := Jvm.LawKit.callS X hx (y := y) hown (mvT hZ w1) (mvT hZ w2) (mvT hZ w3) (mvT hZ w4) hy (backOf (W := W) hM hZ w4 w3 hf hl) (g := mkF m pc Ls st) rfl hsz (argsL := argsL) (rest := rest) (lenOf hds hlen) hst hW hd (fun _ _ => ⟨rfl, eT, hcl, hsl⟩)
  dsimp only [Pt.U, Pt.locs, Pt.cells, Pt.slots] at X' l1 y1 z1 stp hQ
  subst l1 y1 z1
  exact Gl.of stp (k v T' Lc X' hQ)
theorem Gl.callS0 {G : State → Outcome → Prop} (X : Stand p l e R s m args below meth c T locs cells slots) (hx : p.tables.exec = Jvm.exec) (hZ : Z.Warmed39 s.vm) {own : String} {index : Nat} {y : MethodName} {bytes : ByteArray} {maxL : Nat} {rt : Option FieldType} (hown : s.vm.findClass own = some m.cls)
    (w1 : (Jvm.Cond.methodLink own index y).before a0 Z = true) (w2 : (Jvm.Cond.static y).before a0 Z = true) (w3 : (Jvm.Cond.initialized y.cls).before a0 Z = true) (w4 : (Jvm.Cond.code y bytes maxL rt).before a0 Z = true) (hy : y.cls ≠ "java/lang/invoke/MethodHandle" ∧ y.cls ≠ "java/lang/invoke/VarHandle")
    {fr lo : Nat} {F : Option Value → Prop} {argsL rest : List Value} (hM : Con l Z y bytes maxL rt [] ({ frames := fr, cells := 0, slots := 0, locals := lo } : Room) 0 0 argsL.toArray h (Pur F h)) (W : Nat) (hf : fr + 1 ≤ R.frames) (hl : W + (maxL + 11) + lo ≤ R.locals) (eT : T.heap = h)
    {pc : Nat} {Ls : Array Slot} {st : List Value} (hsz : Ls.size = c.maxLocals) {ps : List FieldType} {r' : Option FieldType} (hds : parseMethodDescriptor y.desc = some ⟨ps, r'⟩) (hlen : argsL.length = ps.length) (hst : st = argsL.reverse ++ rest) (hW : 2 * 0 + (rest.map fun v => v.category).sum ≤ W) (hd : decode c.code pc = .ok (.invokestatic index, 3)) (hcl : cells ≤ R.cells) (hsl : slots ≤ R.slots)
    (k : ∀ (v : Option Value) (T' : State), Stand p l e R s m args below meth c T' locs cells slots → T'.heap = h → F v → Gl p e below G (T'.setTop (mkF m (pc + 3) Ls (v.toList ++ rest)))) : Gl p e below G (T.setTop (mkF m pc Ls st)) := by
  refine Gl.callS X hx hZ hown w1 w2 w3 w4 hy hM W hf hl hcl hsl eT hsz hds hlen hst hW hd ?_
  intro v T' L X' hQ
  obtain ⟨q1, q2, rfl⟩ := hQ
  rw [List.append_nil] at X'
  exact k v T' X' q2 q1
/-- an instance method that the receiver's class selects, by its contract -/
theorem Gl.callV {G : State → Outcome → Prop} (X : Stand p l e R s m args below meth c T locs cells slots) (hx : p.tables.exec = Jvm.exec) (hZ : Z.Warmed39 s.vm) {own C : String} {index : Nat} {y z : MethodName} {bytes : ByteArray} {maxL : Nat} {rt : Option FieldType} (hown : s.vm.findClass own = some m.cls)
    (w1 : (Jvm.Cond.methodLink own index y).before a0 Z = true) (w2 : (Jvm.Cond.declares y).before a0 Z = true) (nf : NotFace s y) (w3 : (Jvm.Cond.selects C y z).before a0 Z = true) (w4 : (Jvm.Cond.instanceMethod z).before a0 Z = true) (w5 : (Jvm.Cond.code z bytes maxL rt).before a0 Z = true) (w6 : (Jvm.Cond.initialized z.cls).before a0 Z = true) (hy : y.cls ≠ "java/lang/invoke/MethodHandle" ∧ y.cls ≠ "java/lang/invoke/VarHandle")
    {rm : Room} {Q : Option Value → Heap → List Loc → Prop} {b : Addr} {argsL rest : List Value} (hE : Exa Z h b C) (hM : Con l Z z bytes maxL rt [] rm rm.cells rm.slots (.ref b :: argsL).toArray h Q) (W : Nat) (hf : rm.frames + 1 ≤ R.frames) (hl : W + (maxL + 11) + rm.locals ≤ R.locals) (hcl : cells + rm.cells ≤ R.cells) (hsl : slots + rm.slots ≤ R.slots) (eT : T.heap = h)
    {pc : Nat} {Ls : Array Slot} {st : List Value} (hsz : Ls.size = c.maxLocals) {ps : List FieldType} {r' : Option FieldType} (hds : parseMethodDescriptor y.desc = some ⟨ps, r'⟩) (hlen : argsL.length = ps.length) (hst : st = argsL.reverse ++ .ref b :: rest) (hW : 2 * 0 + (rest.map fun v => v.category).sum ≤ W) (hd : decode c.code pc = .ok (.invokevirtual index, 3))
    (k : ∀ (v : Option Value) (T' : State) (L : List Loc), Stand p l e R s m args below meth c T' (locs ++ L) (cells + rm.cells) (slots + rm.slots) → Q v T'.heap L → Gl p e below G (T'.setTop (mkF m (pc + 3) Ls (v.toList ++ rest)))) : Gl p e below G (T.setTop (mkF m pc Ls st)) := by
  obtain ⟨cq, kq, qa, qb, qc⟩ := isOf hZ eT hE
  obtain ⟨v, _, ⟨T', L', k', n'⟩, -, X', ⟨Lc, hQ, l1, y1, z1⟩, stp⟩ := X.virtualBack hx (y := y) (z := z) hown (mvT hZ w1) (mvT hZ w2) nf (mvT hZ w3) (mvT hZ w4) hy (backOf (W := W) hM hZ w5 w6 hf hl) qa qc (g := mkF m pc Ls st) rfl hsz (Steps.refl _) (argsL := argsL) (rest := rest) (lenOf hds hlen) hst hW hd (fun _ _ => ⟨rfl, eT, hcl, hsl⟩)
  dsimp only [Pt.U, Pt.locs, Pt.cells, Pt.slots] at X' l1 y1 z1 stp hQ
  subst l1 y1 z1
  exact Gl.of (fun t q => stp.trans q) (k v T' Lc X' hQ)
theorem Gl.callV0 {G : State → Outcome → Prop} (X : Stand p l e R s m args below meth c T locs cells slots) (hx : p.tables.exec = Jvm.exec) (hZ : Z.Warmed39 s.vm) {own C : String} {index : Nat} {y z : MethodName} {bytes : ByteArray} {maxL : Nat} {rt : Option FieldType} (hown : s.vm.findClass own = some m.cls)
    (w1 : (Jvm.Cond.methodLink own index y).before a0 Z = true) (w2 : (Jvm.Cond.declares y).before a0 Z = true) (nf : NotFace s y) (w3 : (Jvm.Cond.selects C y z).before a0 Z = true) (w4 : (Jvm.Cond.instanceMethod z).before a0 Z = true) (w5 : (Jvm.Cond.code z bytes maxL rt).before a0 Z = true) (w6 : (Jvm.Cond.initialized z.cls).before a0 Z = true) (hy : y.cls ≠ "java/lang/invoke/MethodHandle" ∧ y.cls ≠ "java/lang/invoke/VarHandle")
    {fr lo : Nat} {F : Option Value → Prop} {b : Addr} {argsL rest : List Value} (hE : Exa Z h b C) (hM : Con l Z z bytes maxL rt [] ({ frames := fr, cells := 0, slots := 0, locals := lo } : Room) 0 0 (.ref b :: argsL).toArray h (Pur F h)) (W : Nat) (hf : fr + 1 ≤ R.frames) (hl : W + (maxL + 11) + lo ≤ R.locals) (eT : T.heap = h)
    {pc : Nat} {Ls : Array Slot} {st : List Value} (hsz : Ls.size = c.maxLocals) {ps : List FieldType} {r' : Option FieldType} (hds : parseMethodDescriptor y.desc = some ⟨ps, r'⟩) (hlen : argsL.length = ps.length) (hst : st = argsL.reverse ++ .ref b :: rest) (hW : 2 * 0 + (rest.map fun v => v.category).sum ≤ W) (hd : decode c.code pc = .ok (.invokevirtual index, 3)) (hcl : cells ≤ R.cells) (hsl : slots ≤ R.slots)
    (k : ∀ (v : Option Value) (T' : State), Stand p l e R s m args below meth c T' locs cells slots → T'.heap = h → F v → Gl p e below G (T'.setTop (mkF m (pc + 3) Ls (v.toList ++ rest)))) : Gl p e below G (T.setTop (mkF m pc Ls st)) := by
  refine Gl.callV X hx hZ hown w1 w2 nf w3 w4 w5 w6 hy hE hM W hf hl hcl hsl eT hsz hds hlen hst hW hd ?_
  intro v T' L X' hQ
  obtain ⟨q1, q2, rfl⟩ := hQ
  rw [List.append_nil] at X'
  exact k v T' X' q2 q1
/-- a constructor by its contract -/
theorem Gl.callI {G : State → Outcome → Prop} (X : Stand p l e R s m args below meth c T locs cells slots) (hx : p.tables.exec = Jvm.exec) (hZ : Z.Warmed39 s.vm) {own : String} {index : Nat} {y : MethodName} {bytes : ByteArray} {maxL : Nat} (hy1 : y.name = "<init>") (hown : s.vm.findClass own = some m.cls)
    (w1 : (Jvm.Cond.methodLink own index y).before a0 Z = true) (w2 : (Jvm.Cond.instanceMethod y).before a0 Z = true) (w3 : (Jvm.Cond.initialized y.cls).before a0 Z = true) (w4 : (Jvm.Cond.code y bytes maxL none).before a0 Z = true) (hy : y.cls ≠ "java/lang/invoke/MethodHandle" ∧ y.cls ≠ "java/lang/invoke/VarHandle")
    {rm : Room} {Q : Option Value → Heap → List Loc → Prop} {b : Addr} {argsL rest : List Value} (hM : Con l Z y bytes maxL none [] rm rm.cells rm.slots (.ref b :: argsL).toArray h Q) (W : Nat) (hf : rm.frames + 1 ≤ R.frames) (hl : W + (maxL + 11) + rm.locals ≤ R.locals) (hcl : cells + rm.cells ≤ R.cells) (hsl : slots + rm.slots ≤ R.slots) (eT : T.heap = h)
    {pc : Nat} {Ls : Array Slot} {st : List Value} (hsz : Ls.size = c.maxLocals) {ps : List FieldType} {r' : Option FieldType} (hds : parseMethodDescriptor y.desc = some ⟨ps, r'⟩) (hlen : argsL.length = ps.length) (hst : st = argsL.reverse ++ .ref b :: rest) (hW : 2 * 0 + (rest.map fun v => v.category).sum ≤ W) (hd : decode c.code pc = .ok (.invokespecial index, 3))
    (k : ∀ (v : Option Value) (T' : State) (L : List Loc), Stand p l e R s m args below meth c T' (locs ++ L) (cells + rm.cells) (slots + rm.slots) → Q v T'.heap L → Gl p e below G (T'.setTop (mkF m (pc + 3) Ls (v.toList ++ rest)))) : Gl p e below G (T.setTop (mkF m pc Ls st)) := by
  obtain ⟨v, _, ⟨T', L', k', n'⟩, -, X', ⟨Lc, hQ, l1, y1, z1⟩, stp⟩ := X.specialBack hx (y := y) hy1 hown (mvT hZ w1) (mvT hZ w2) (mvT hZ w4) hy (backOf (W := W) hM hZ w4 w3 hf hl) (g := mkF m pc Ls st) rfl hsz (Steps.refl _) (a := b) (argsL := argsL) (rest := rest) (lenOf hds hlen) hst hW hd (fun _ _ => ⟨rfl, eT, hcl, hsl⟩)
  dsimp only [Pt.U, Pt.locs, Pt.cells, Pt.slots] at X' l1 y1 z1 stp hQ
  subst l1 y1 z1
  exact Gl.of (fun t q => stp.trans q) (k v T' Lc X' hQ)
theorem Gl.callI0 {G : State → Outcome → Prop} (X : Stand p l e R s m args below meth c T locs cells slots) (hx : p.tables.exec = Jvm.exec) (hZ : Z.Warmed39 s.vm) {own : String} {index : Nat} {y : MethodName} {bytes : ByteArray} {maxL : Nat} (hy1 : y.name = "<init>") (hown : s.vm.findClass own = some m.cls)
    (w1 : (Jvm.Cond.methodLink own index y).before a0 Z = true) (w2 : (Jvm.Cond.instanceMethod y).before a0 Z = true) (w3 : (Jvm.Cond.initialized y.cls).before a0 Z = true) (w4 : (Jvm.Cond.code y bytes maxL none).before a0 Z = true) (hy : y.cls ≠ "java/lang/invoke/MethodHandle" ∧ y.cls ≠ "java/lang/invoke/VarHandle")
    {fr lo : Nat} {F : Option Value → Prop} {b : Addr} {argsL rest : List Value} (hM : Con l Z y bytes maxL none [] ({ frames := fr, cells := 0, slots := 0, locals := lo } : Room) 0 0 (.ref b :: argsL).toArray h (Pur F h)) (W : Nat) (hf : fr + 1 ≤ R.frames) (hl : W + (maxL + 11) + lo ≤ R.locals) (eT : T.heap = h)
    {pc : Nat} {Ls : Array Slot} {st : List Value} (hsz : Ls.size = c.maxLocals) {ps : List FieldType} {r' : Option FieldType} (hds : parseMethodDescriptor y.desc = some ⟨ps, r'⟩) (hlen : argsL.length = ps.length) (hst : st = argsL.reverse ++ .ref b :: rest) (hW : 2 * 0 + (rest.map fun v => v.category).sum ≤ W) (hd : decode c.code pc = .ok (.invokespecial index, 3)) (hcl : cells ≤ R.cells) (hsl : slots ≤ R.slots)
    (k : ∀ (v : Option Value) (T' : State), Stand p l e R s m args below meth c T' locs cells slots → T'.heap = h → F v → Gl p e below G (T'.setTop (mkF m (pc + 3) Ls (v.toList ++ rest)))) : Gl p e below G (T.setTop (mkF m pc Ls st)) := by
  refine Gl.callI X hx hZ hy1 hown w1 w2 w3 w4 hy hM W hf hl hcl hsl eT hsz hds hlen hst hW hd ?_
  intro v T' L X' hQ
  obtain ⟨q1, q2, rfl⟩ := hQ
  rw [List.append_nil] at X'
  exact k v T' X' q2 q1
theorem nf_same {y y' : MethodName} {C : String} (hc : y'.cls = y.cls) (w : (Jvm.Cond.selects C y y).before args s = true) : NotFace s y' := fun r0 h0 => by
  obtain ⟨c2, r2, m2, q1, q2, q3, q4, kP, hkP, hkPi⟩ := Cond.selects_spec w
  have a := findClass_of_methodNamed h0
  rw [hc] at a
  have b := Option.some.inj (a.symm.trans (findClass_of_methodNamed q3))
  exact ⟨kP, by rw [b]; exact hkP, hkPi⟩
theorem fld_ne {a b : Addr} {C n d : String} {v w : Value} (F : Fld Z h a C n d v) (G : Fld Z h b C n d w) (hn : v ≠ w) : ¬ a = b := fun e => by
  subst e
  obtain ⟨c1, cf, k, i, f, h1, h2, -, -, -, -, h7⟩ := F
  obtain ⟨c2, cf', k', i', f', g1, g2, -, -, -, -, g7⟩ := G
  cases h1.symm.trans g1
  cases h2.symm.trans g2
  exact hn (Option.some.inj (h7.symm.trans g7))
/-- the words of a case: an equation with an int -/
theorem eq_at {args : Array Value} {s : State} {t : Term} {idx : List Nat} {z : Int32} (h : (Jvm.Cond.eq t (.int z)).value args s none s idx = some true) : t.eval args s none idx s = some (.int z) := by
  obtain ⟨x, y', e1, e2, k1, k2⟩ := cmp_v (Or.inl h)
  cases (Term.int_eval z).symm.trans e2
  obtain ⟨z', rfl⟩ : ∃ z', x = .int z' := k2
  exact e1.trans (congrArg (fun z => some (Value.int z)) (gotT (Cond.eq_ints e1 (Term.int_eval z)) h))
theorem eqR_at {args : Array Value} {s : State} {t u : Term} {idx : List Nat} {a : Addr} (h : (Jvm.Cond.eq t u).value args s none s idx = some true) (hu : u.eval args s none idx s = some (.ref a)) : t.eval args s none idx s = some (.ref a) := by
  obtain ⟨x, y', e1, e2, k1, k2⟩ := cmp_v (Or.inl h)
  cases hu.symm.trans e2
  have hx : x.isRef = true := k2.2
  have q := gotT (eq_R e1 hu hx rfl) h
  rw [q] at e1
  exact e1
theorem len_at {args : Array Value} {s : State} {t : Term} {z : Int32} {a : Addr} {cl : Cell} (h : (Term.length t).eval args s none [] s = some (.int z)) (ht : t.eval args s none [] s = some (.ref a)) (ha : s.arrayAt? a = some cl) : cl.slots.size.toInt32 = z ∧ cl.slots.size < 2 ^ 31 := by
  by_cases q : cl.slots.size < 2 ^ 31
  · rw [len_f ht ha q] at h
    cases h
    exact ⟨rfl, q⟩
  · simp [Term.eval, ht, ha, q] at h
theorem len_sz {n : Nat} {z : Int32} (h : n.toInt32 = z) (q : n < 2 ^ 31) : n = z.toNatClampNeg := by
  rw [← h]; simp only [Int32.toNatClampNeg, len_toInt q]; rfl
end Own
variable {Z : State} {a0 : Array Value}
abbrev vi (x : Int32) : Slot := .val (.int x)
abbrev vr (x : Addr) : Slot := .val (.ref x)
abbrev vu : Slot := .unset
abbrev HW (Z : State) (a0 : Array Value) : Prop := ∀ d ∈ tables_1, d.before a0 Z = true
theorem wm {d : Jvm.Cond} (i : Nat) (h : tables_1[i]? = some d) : d ∈ tables_1 := List.mem_of_getElem? h
abbrev xS (Z : State) (h : Heap) (x : Addr) : Prop := Exa Z h x "java/lang/String"
abbrev fV (Z : State) (h : Heap) (x t : Addr) : Prop := Fld Z h x "java/lang/String" "value" "[B" (.ref t)
abbrev fC (Z : State) (h : Heap) (x : Addr) (z : Int32) : Prop := Fld Z h x "java/lang/String" "coder" "B" (.int z)
abbrev sSC (Z : State) (z : Int32) : Prop := Sta Z Z.heap "java/lang/String" "COMPACT_STRINGS" "Z" (.int z)
abbrev sSF (Z : State) (f : Value) : Prop := Sta Z Z.heap "jdk/internal/util/Preconditions" "SIOOBE_FORMATTER" "Ljava/util/function/BiFunction;" f
abbrev sSa (Z : State) : Prop := Sta Z Z.heap "java/lang/StringUTF16" "$assertionsDisabled" "Z" (.int 1)
abbrev sSh (Z : State) : Prop := Sta Z Z.heap "java/lang/StringUTF16" "HI_BYTE_SHIFT" "I" (.int 0)
abbrev sSl (Z : State) : Prop := Sta Z Z.heap "java/lang/StringUTF16" "LO_BYTE_SHIFT" "I" (.int 8)
abbrev ro (f c s l : Nat) : Room := { frames := f, cells := c, slots := s, locals := l }
abbrev Gf (p : Program) (e : Env) (below : List Frame) (G : State → Outcome → Prop) (T : State) (m : MethodId) (pc : Nat) (Ls : Array Slot) (st : List Value) : Prop := Gl p e below G (T.setTop (mkF m pc Ls st))
theorem gs {p : Program} {e : Env} {below : List Frame} {G : State → Outcome → Prop} {S S' : State} (h : ∀ t, Steps p.tables e below S' t → Steps p.tables e below S t) (g : Gl p e below G S') : Gl p e below G S := Gl.of h g
abbrev my0 : MethodName := ⟨"java/util/Arrays", "copyOfRange", "([BII)[B"⟩
abbrev my1 : MethodName := ⟨"java/lang/StringUTF16", "putChar", "([BII)V"⟩
abbrev my2 : MethodName := ⟨"java/lang/StringUTF16", "newBytesLength", "(I)I"⟩
abbrev my3 : MethodName := ⟨"java/lang/StringUTF16", "newBytesFor", "(I)[B"⟩
abbrev my4 : MethodName := ⟨"java/lang/StringUTF16", "toBytes", "([CII)[B"⟩
abbrev my5 : MethodName := ⟨"java/lang/StringUTF16", "getChar", "([BI)C"⟩
abbrev my6 : MethodName := ⟨"java/lang/StringUTF16", "compress", "([CI[BII)I"⟩
abbrev my7 : MethodName := ⟨"java/lang/StringUTF16", "compress", "([CII)[B"⟩
abbrev my8 : MethodName := ⟨"java/lang/StringUTF16", "coderFromArrayLen", "([BI)B"⟩
abbrev my9 : MethodName := ⟨"java/lang/String", "<init>", "([CIILjava/lang/Void;)V"⟩
abbrev my10 : MethodName := ⟨"java/lang/String", "<init>", "([C)V"⟩
abbrev my11 : MethodName := ⟨"java/lang/String", "coder", "()B"⟩
abbrev my12 : MethodName := ⟨"java/lang/String", "isLatin1", "()Z"⟩
abbrev my13 : MethodName := ⟨"jdk/internal/util/Preconditions", "checkIndex", "(IILjava/util/function/BiFunction;)I"⟩
abbrev my14 : MethodName := ⟨"java/lang/String", "checkIndex", "(II)V"⟩
abbrev my15 : MethodName := ⟨"java/lang/StringUTF16", "length", "([B)I"⟩
abbrev my16 : MethodName := ⟨"java/lang/String", "length", "()I"⟩
abbrev my17 : MethodName := ⟨"java/lang/StringLatin1", "charAt", "([BI)C"⟩
abbrev my18 : MethodName := ⟨"java/lang/StringUTF16", "checkIndex", "(I[B)V"⟩
abbrev my19 : MethodName := ⟨"java/lang/StringUTF16", "charAt", "([BI)C"⟩
abbrev my20 : MethodName := ⟨"java/lang/String", "charAt", "(I)C"⟩
abbrev my21 : MethodName := ⟨"java/lang/String", "<init>", "([BB)V"⟩
abbrev my22 : MethodName := ⟨"jdk/internal/util/Preconditions", "checkFromIndexSize", "(IIILjava/util/function/BiFunction;)I"⟩
abbrev my23 : MethodName := ⟨"java/lang/String", "checkBoundsOffCount", "(III)I"⟩
abbrev my24 : MethodName := ⟨"java/lang/StringUTF16", "checkBoundsOffCount", "(II[B)V"⟩
abbrev my25 : MethodName := ⟨"java/lang/StringLatin1", "newString", "([BII)Ljava/lang/String;"⟩
abbrev my26 : MethodName := ⟨"java/lang/StringUTF16", "compress", "([BI[BII)I"⟩
abbrev my27 : MethodName := ⟨"java/lang/StringUTF16", "compress", "([BII)[B"⟩
abbrev my28 : MethodName := ⟨"java/lang/StringUTF16", "newString", "([BII)Ljava/lang/String;"⟩
abbrev my29 : MethodName := ⟨"jdk/internal/util/Preconditions", "checkFromToIndex", "(IIILjava/util/function/BiFunction;)I"⟩
abbrev my30 : MethodName := ⟨"java/lang/String", "checkBoundsBeginEnd", "(III)V"⟩
abbrev my31 : MethodName := ⟨"java/lang/String", "substring", "(II)Ljava/lang/String;"⟩
abbrev my32 : MethodName := ⟨"java/lang/Record", "<init>", "()V"⟩
abbrev my33 : MethodName := ⟨"com/example/rulr/rulr/policy/SqlCondition$Membership", "<init>", "(Ljava/lang/String;Ljava/lang/String;Lcom/example/rulr/rulr/policy/SqlCondition$Span;IZI)V"⟩
abbrev my34 : MethodName := ⟨"com/example/rulr/rulr/policy/SqlCondition$Membership", "selection", "()Ljava/lang/String;"⟩
abbrev bc0 : ByteArray := jdk_30_method_1_code
abbrev bc1 : ByteArray := jdk_41_method_11_code
abbrev bc2 : ByteArray := jdk_41_method_12_code
abbrev bc3 : ByteArray := jdk_41_method_13_code
abbrev bc4 : ByteArray := jdk_42_method_149_code
abbrev bc5 : ByteArray := jdk_42_method_151_code
abbrev bc6 : ByteArray := jdk_42_method_152_code
abbrev bc7 : ByteArray := jdk_42_method_154_code
abbrev bc8 : ByteArray := jdk_42_method_155_code
abbrev bc9 : ByteArray := jdk_42_method_157_code
abbrev bc10 : ByteArray := jdk_42_method_158_code
abbrev bc11 : ByteArray := jdk_42_method_3_code
abbrev bc12 : ByteArray := jdk_42_method_54_code
abbrev bc13 : ByteArray := jdk_42_method_56_code
abbrev bc14 : ByteArray := jdk_42_method_92_code
abbrev bc15 : ByteArray := jdk_43_method_2_code
abbrev bc16 : ByteArray := jdk_43_method_47_code
abbrev bc17 : ByteArray := jdk_52_method_14_code
abbrev bc18 : ByteArray := jdk_52_method_15_code
abbrev bc19 : ByteArray := jdk_52_method_16_code
abbrev bc20 : ByteArray := jdk_52_method_17_code
abbrev bc21 : ByteArray := jdk_52_method_21_code
abbrev bc22 : ByteArray := jdk_52_method_22_code
abbrev bc23 : ByteArray := jdk_52_method_2_code
abbrev bc24 : ByteArray := jdk_52_method_3_code
abbrev bc25 : ByteArray := jdk_52_method_4_code
abbrev bc26 : ByteArray := jdk_52_method_5_code
abbrev bc27 : ByteArray := jdk_52_method_69_code
abbrev bc28 : ByteArray := jdk_52_method_6_code
abbrev bc29 : ByteArray := jdk_52_method_83_code
abbrev bc30 : ByteArray := jdk_52_method_91_code
abbrev bc31 : ByteArray := jdk_52_method_94_code
abbrev bc32 : ByteArray := jdk_65_method_132_code
abbrev bc33 : ByteArray := object_method_1_code
abbrev bc34 : ByteArray := prog_56_method_1_code
abbrev bc35 : ByteArray := prog_56_method_4_code
theorem own_str {Z : State} {a0 : Array Value} (hw : HW Z a0) : ∀ a ∈ Bundle.stringAtoms, a.before a0 Z = true := fun d hd => hw d ((by decide +kernel : ∀ d ∈ Bundle.stringAtoms, d ∈ tables_1) d hd)
def Strg (Z : State) (h : Heap) (x t : Addr) (kb : ClassId) (cs : List Int32) : Prop := xS Z h x ∧ fV Z h x t ∧ fC Z h x 0 ∧ Arv Z h t kb .byte (Int32.ofNat cs.length) ((cs.map (fun c => c.toInt8.toInt32)).map Value.int) (.int 0) ∧ (∀ c ∈ cs, ¬ c < 0 ∧ ¬ (255 : Int32) < c) ∧ cs.length ≤ 4000
theorem Strg.ext {Z : State} {h h' : Heap} {x t : Addr} {kb : ClassId} {cs : List Int32} (G : Strg Z h x t kb cs) (E : Ext h h') : Strg Z h' x t kb cs := ⟨G.1.ext E, G.2.1.ext E, G.2.2.1.ext E, G.2.2.2.1.ext E, G.2.2.2.2⟩
theorem Strg.keep {Z : State} {h h' : Heap} {x t : Addr} {kb : ClassId} {cs : List Int32} {ws : List Addr} (G : Strg Z h x t kb cs) (K : Keep h h' ws) (q : x ∉ ws) (q' : t ∉ ws) : Strg Z h' x t kb cs := ⟨G.1.keep K, G.2.1.keep K q, G.2.2.1.keep K q, G.2.2.2.1.keep K q', G.2.2.2.2⟩
theorem Strg.wr {Z : State} {h h' : Heap} {x t a : Addr} {sl : Nat} {v : Value} {kb : ClassId} {cs : List Int32} (G : Strg Z h x t kb cs) (W : Wr h h' a sl v) (q : x ≠ a) (q' : t ≠ a) : Strg Z h' x t kb cs := ⟨G.1.wr W, G.2.1.other W (Or.inl q), G.2.2.1.other W (Or.inl q), G.2.2.2.1.other W q', G.2.2.2.2⟩
theorem Strg.lt {Z : State} {h : Heap} {x t : Addr} {kb : ClassId} {cs : List Int32} (G : Strg Z h x t kb cs) : x < h.size := G.1.lt
theorem Strg.lt' {Z : State} {h : Heap} {x t : Addr} {kb : ClassId} {cs : List Int32} (G : Strg Z h x t kb cs) : t < h.size := G.2.2.2.1.lt
section OwnH
variable {p : Program} {l : Launch} {e : Env} {R : Room} {s : State} {m : MethodId} {args : Array Value} {below : List Frame} {meth : Method} {c : Code} {T : State} {locs : List Loc} {cells slots : Nat} {Z : State} {a0 : Array Value} {h : Heap}
variable {EL : List (String × Nat)}
def ConE (l : Launch) (Z : State) (EL : List (String × Nat)) (y : MethodName) (bytes : ByteArray) (maxL : Nat) (rt : Option FieldType) (ws : List Jvm.Cond) (rm : Room) (C N : Nat) (as : Array Value) (h : Heap) (Q : Option Value → Heap → List Loc → Prop) : Prop :=
  MetFree l y (head1 (Jvm.Cond.code y bytes maxL rt :: ws) rm) (fun a U => a = as ∧ Z.Warmed39 U.vm ∧ U.heap = h ∧ CHv Z EL U.vm h) (fun _ _ _ _ _ => True) (fun _ U o U' => ∃ v L, o = .returned v ∧ Q v U'.heap L ∧ ReturnedEndW U o U' L C N)
theorem ConE.intro {y : MethodName} {bytes : ByteArray} {maxL : Nat} {rt : Option FieldType} {ws : List Jvm.Cond} {rm : Room} {C N : Nat} {as : Array Value} {Q : Option Value → Heap → List Loc → Prop} (hp : plainFor y = true)
    (body : ∀ p e s m below meth c s₁, Stand p l e rm s m as below meth c s₁ [] 0 0 → p.tables.exec = Jvm.exec → c.code = bytes → c.maxLocals = maxL → Z.Warmed39 s.vm → s.vm.findClass y.cls = some m.cls → meth.name = y.name → meth.sig.returnType = rt → meth.locks = false → s₁.heap = h → s.heap = h → CHr Z EL s.vm s.heap s.vm h →
      Gl p e below (GdW s Q C N) (s₁.setTop (entryFrame m as maxL))) : ConE l Z EL y bytes maxL rt ws rm C N as h Q := by
  refine MetFree.of_bodySF hp hisR ?_
  intro p e s m args below meth c s₁ Bd hml0 hP hK
  obtain ⟨rfl, hZ, hh, hC⟩ := hP
  exact body p e s m below meth c s₁ (Stand.of_body Bd) Bd.exec Bd.bytes hml0 hZ (findClass_of_methodNamed Bd.named) (name_of_methodNamed Bd.named Bd.method).1 Bd.returns (BodyLoose.notSynchronized Bd) (by rw [← hh, Bd.state]; rfl) hh (by rw [hh]; exact CHr.refl hC)
theorem own_backE {vm0 : Vm} {y : MethodName} {bytes : ByteArray} {maxL : Nat} {ret : Option FieldType} {rm : Room} {len W : Nat} {as' : Array Value} {Q : Option Value → Heap → List Loc → Prop}
    (hM : ConE l Z EL y bytes maxL ret [] rm rm.cells rm.slots as' h Q) (hZ : Z.Warmed39 vm0) (wc : (Jvm.Cond.code y bytes maxL ret).before a0 Z = true) (wz : (Jvm.Cond.initialized y.cls).before a0 Z = true) (hf : rm.frames + 1 ≤ R.frames) (hl : W + (maxL + 11) + rm.locals ≤ R.locals) (hEL : EW Z a0 EL) (H : CHv Z EL vm0 h) :
    BackS l R p e below (s.setVm vm0) args y len W (fun A a => a = as' ∧ A.U.heap = h ∧ A.cells + rm.cells ≤ R.cells ∧ A.slots + rm.slots ≤ R.slots)
      (fun A _ v B => ∃ L, Q v B.U.heap L ∧ B.locs = A.locs ++ L ∧ B.cells = A.cells + rm.cells ∧ B.slots = A.slots + rm.slots) :=
  BackS.of_freeW (bytes := bytes) (maxL := maxL) (ret := ret) (E := fun _ first o t L k n => k = rm.cells ∧ n = rm.slots ∧ ∃ v, o = .returned v ∧ Q v t.heap L) hM hf hl
    (fun m meth c A a Y hp => have hU : Z.Warmed39 A.U.vm := wtrans (s := s.setVm vm0) hZ Y.warmed
      ⟨by show (Jvm.Cond.and _ .tt).before a A.U = true; rw [Cond.before_and, mv hU wc]; rfl, mv hU wc, mv hU wz, hp.2.2.1, hp.2.2.2⟩)
    (fun m meth c A a g mk Y hp => ⟨hp.1, wtrans (s := s.setVm vm0) hZ Y.warmed, hp.2.1, (CHv.at Y hZ hEL H).1⟩) (fun _ _ _ _ _ _ _ _ _ => trivial)
    (fun _ _ _ _ ⟨v, L, h1, h2, h3⟩ => ⟨L, _, _, h3, rfl, rfl, v, h1, h2⟩)
    (fun m meth c A a g mk v t L k n Y hp _ _ ⟨e1, e2, v', e3, e4⟩ => by cases e3; subst e1 e2; exact ⟨L, e4, rfl, rfl, rfl⟩)
theorem Gl.callSE {G : State → Outcome → Prop} {vm0 : Vm} {k0 : Nat} (X : Stand p l e R (s.setVm vm0) m args below meth c T locs cells slots) (hx : p.tables.exec = Jvm.exec) (hZ : Z.Warmed39 (s.setVm vm0).vm) (hS : s.Since vm0 k0) (hk : k0 ≤ h.size) {vmS : Vm} {hh0 : Heap} (hEL : EW Z a0 EL) (hR : CHr Z EL vmS hh0 vm0 h) {own : String} {index : Nat} {y : MethodName} {bytes : ByteArray} {maxL : Nat} {rt : Option FieldType} (hown : (s.setVm vm0).vm.findClass own = some m.cls)
    (w1 : (Jvm.Cond.methodLink own index y).before a0 Z = true) (w2 : (Jvm.Cond.static y).before a0 Z = true) (w3 : (Jvm.Cond.initialized y.cls).before a0 Z = true) (w4 : (Jvm.Cond.code y bytes maxL rt).before a0 Z = true) (hy : y.cls ≠ "java/lang/invoke/MethodHandle" ∧ y.cls ≠ "java/lang/invoke/VarHandle")
    {rm : Room} {Q : Option Value → Heap → List Loc → Prop} {argsL rest : List Value} (hM : ConE l Z EL y bytes maxL rt [] rm rm.cells rm.slots argsL.toArray h Q) (W : Nat) (hf : rm.frames + 1 ≤ R.frames) (hl : W + (maxL + 11) + rm.locals ≤ R.locals) (hcl : cells + rm.cells ≤ R.cells) (hsl : slots + rm.slots ≤ R.slots) (eT : T.heap = h)
    {pc : Nat} {Ls : Array Slot} {st : List Value} (hsz : Ls.size = c.maxLocals) {ps : List FieldType} {r' : Option FieldType} (hds : parseMethodDescriptor y.desc = some ⟨ps, r'⟩) (hlen : argsL.length = ps.length) (hst : st = argsL.reverse ++ rest) (hW : 2 * 0 + (rest.map fun v => v.category).sum ≤ W) (hd : decode c.code pc = .ok (.invokestatic index, 3))
    (k : ∀ (v : Option Value) (T' : State) (L : List Loc), Stand p l e R (s.setVm T'.vm) m args below meth c T' (locs ++ L) (cells + rm.cells) (slots + rm.slots) → s.Since T'.vm T'.heap.size → Z.Warmed39 (s.setVm T'.vm).vm → (s.setVm T'.vm).vm.findClass own = some m.cls → Q v T'.heap L → Gl p e below G (T'.setTop (mkF m (pc + 3) Ls (v.toList ++ rest)))) : Gl p e below G (T.setTop (mkF m pc Ls st)) := by
  obtain ⟨v, _, ⟨T', L', k', n'⟩, -, X', hS', hg', ⟨Lc, hQ, l1, y1, z1⟩, stp⟩ := callSS X hx (y := y) hown (mvT hZ w1) (mvT hZ w2) (mvT hZ w3) (mvT hZ w4) hy (own_backE (W := W) hM hZ w4 w3 hf hl hEL hR.1) (g := mkF m pc Ls st) rfl hsz (argsL := argsL) (rest := rest) (lenOf hds hlen) hst hW hd (fun _ _ => ⟨rfl, eT, hcl, hsl⟩)
  dsimp only [Pt.U, Pt.locs, Pt.cells, Pt.slots] at X' l1 y1 z1 stp hQ hS' hg'
  subst l1 y1 z1
  rw [eT] at hg'
  obtain ⟨q1, q2, q3, q4⟩ := rebS hS hk X' hS' hg' hZ hown
  exact Gl.of (fun t q => stp.trans q) (k v T' Lc q1 q2 q3 q4 hQ)
theorem Gl.callVE {G : State → Outcome → Prop} {vm0 : Vm} {k0 : Nat} (X : Stand p l e R (s.setVm vm0) m args below meth c T locs cells slots) (hx : p.tables.exec = Jvm.exec) (hZ : Z.Warmed39 (s.setVm vm0).vm) (hS : s.Since vm0 k0) (hk : k0 ≤ h.size) {vmS : Vm} {hh0 : Heap} (hEL : EW Z a0 EL) (hR : CHr Z EL vmS hh0 vm0 h) {own C : String} {index : Nat} {y z : MethodName} {bytes : ByteArray} {maxL : Nat} {rt : Option FieldType} (hown : (s.setVm vm0).vm.findClass own = some m.cls)
    (w1 : (Jvm.Cond.methodLink own index y).before a0 Z = true) (w2 : (Jvm.Cond.declares y).before a0 Z = true) (nf : NotFace (s.setVm vm0) y) (w5 : (Jvm.Cond.selects C y z).before a0 Z = true) (w6 : (Jvm.Cond.instanceMethod z).before a0 Z = true) (w4 : (Jvm.Cond.code z bytes maxL rt).before a0 Z = true) (w3 : (Jvm.Cond.initialized z.cls).before a0 Z = true) (hy : y.cls ≠ "java/lang/invoke/MethodHandle" ∧ y.cls ≠ "java/lang/invoke/VarHandle")
    {rm : Room} {Q : Option Value → Heap → List Loc → Prop} {b : Addr} {argsL rest : List Value} (hE : Exa Z h b C) (hM : ConE l Z EL z bytes maxL rt [] rm rm.cells rm.slots (Value.ref b :: argsL).toArray h Q) (W : Nat) (hf : rm.frames + 1 ≤ R.frames) (hl : W + (maxL + 11) + rm.locals ≤ R.locals) (hcl : cells + rm.cells ≤ R.cells) (hsl : slots + rm.slots ≤ R.slots) (eT : T.heap = h)
    {pc : Nat} {Ls : Array Slot} {st : List Value} (hsz : Ls.size = c.maxLocals) {ps : List FieldType} {r' : Option FieldType} (hds : parseMethodDescriptor y.desc = some ⟨ps, r'⟩) (hlen : argsL.length = ps.length) (hst : st = argsL.reverse ++ .ref b :: rest) (hW : 2 * 0 + (rest.map fun v => v.category).sum ≤ W) (hd : decode c.code pc = .ok (.invokevirtual index, 3))
    (k : ∀ (v : Option Value) (T' : State) (L : List Loc), Stand p l e R (s.setVm T'.vm) m args below meth c T' (locs ++ L) (cells + rm.cells) (slots + rm.slots) → s.Since T'.vm T'.heap.size → Z.Warmed39 (s.setVm T'.vm).vm → (s.setVm T'.vm).vm.findClass own = some m.cls → Q v T'.heap L → Gl p e below G (T'.setTop (mkF m (pc + 3) Ls (v.toList ++ rest)))) : Gl p e below G (T.setTop (mkF m pc Ls st)) := by
  obtain ⟨cq, kq, qa, qb, qc⟩ := isOf hZ eT hE
  obtain ⟨v, _, ⟨T', L', k', n'⟩, -, X', hS', hg', ⟨Lc, hQ, l1, y1, z1⟩, stp⟩ := X.virtualBackS hx (y := y) (z := z) hown (mvT hZ w1) (mvT hZ w2) nf (mvT hZ w5) (mvT hZ w6) hy (own_backE (W := W) hM hZ w4 w3 hf hl hEL hR.1) qa qc (g := mkF m pc Ls st) rfl hsz (Steps.refl _) (argsL := argsL) (rest := rest) (lenOf hds hlen) hst hW hd (fun _ _ => ⟨rfl, eT, hcl, hsl⟩)
  dsimp only [Pt.U, Pt.locs, Pt.cells, Pt.slots] at X' l1 y1 z1 stp hQ hS' hg'
  subst l1 y1 z1
  rw [eT] at hg'
  obtain ⟨q1, q2, q3, q4⟩ := rebS hS hk X' hS' hg' hZ hown
  exact Gl.of (fun t q => stp.trans q) (k v T' Lc q1 q2 q3 q4 hQ)
end OwnH
section OwnCor
variable {p : Program} {l : Launch} {e : Env} {R : Room} {s : State} {m : MethodId} {args : Array Value} {below : List Frame} {meth : Method} {c : Code} {T : State} {locs : List Loc} {cells slots : Nat} {Z : State} {a0 : Array Value} {h : Heap}
theorem own_nat {n : Nat} (h : n < 2 ^ 31) : (Int32.ofNat n).toNatClampNeg = n := by
  simp only [Int32.toNatClampNeg, Int32.toInt_ofNat_of_lt h]; rfl
theorem own_neg {n : Nat} (h : n < 2 ^ 31) : ¬ Int32.ofNat n < 0 := by
  rw [Int32.lt_iff_toInt_lt, Int32.toInt_ofNat_of_lt h]; have : (0 : Int32).toInt = 0 := rfl; omega
def own_atoms : Jvm.Cond → List Jvm.Cond
  | .and a b => own_atoms a ++ own_atoms b
  | .tt => []
  | c => [c]
theorem own_atoms_ok {args : Array Value} {s : State} (c : Jvm.Cond) : (∀ d ∈ own_atoms c, d.before args s = true) → c.before args s = true := by
  fun_induction own_atoms c with
  | case1 a b h1 h2 => intro h; rw [Cond.before_and, h1 fun d hd => h d (List.mem_append_left _ hd), h2 fun d hd => h d (List.mem_append_right _ hd)]; rfl
  | case2 => intro h; rfl
  | case3 c _ _ => intro h; exact h c (List.mem_singleton.mpr rfl)
theorem own_tab {tb : Jvm.Cond} (hZ : Z.Warmed39 s.vm) (hw : ∀ d ∈ own_atoms tb, d.before a0 Z = true) (ok : (own_atoms tb).all (fun d => (d.onTables && d.keepsFace) || decide (d = .arrayClass .byte)) = true) : tb.before args s = true := own_atoms_ok _ fun d hd => by
  have q := List.all_eq_true.mp ok d hd
  rw [Bool.or_eq_true] at q
  rcases q with q | q
  · exact RoadKit.mv hZ (hw d hd) q
  · have q' := of_decide_eq_true q
    subst q'
    exact mvA hZ (hw _ hd)
theorem own_fbn {a : Addr} {cA kB : ClassId} {ty : FieldType} {n : Int32} (A : Arr Z h a (newA cA ty n) ty) (E : Exa Z h a "[B") (hfb : Z.vm.findClass "[B" = some kB) : cA = kB := by
  obtain ⟨cell, k, h1, h2, -⟩ := E
  cases A.1.symm.trans h1
  exact Option.some.inj (h2.symm.trans hfb)
theorem own_list {A : Cell} {vs : List Value} {d : Value} (H : Has A vs d) (hl : vs.length = A.slots.size) : A.slots.toList = vs := by
  refine List.ext_getElem? fun i => ?_
  by_cases q : i < A.slots.size
  · have e := H i q
    rw [Array.getElem?_toList, e]
    simp [List.getD, List.getElem?_eq_getElem (show i < vs.length by omega)]
  · rw [List.getElem?_eq_none (by simpa using Nat.le_of_not_lt q), List.getElem?_eq_none (by omega)]
theorem own_fits {v : Value} (q : fits .byte v = true) : ∃ w, v = .int w := by
  cases v <;> first | exact ⟨_, rfl⟩ | (simp [fits] at q)
/-- Arrays.copyOfRange of a known byte[] -/
theorem Gl.callCor {G : State → Outcome → Prop} (X : Stand p l e R s m args below meth c T locs cells slots) (hx : p.tables.exec = Jvm.exec) (hZ : Z.Warmed39 s.vm) {own : String} {index : Nat} {bytes : ByteArray} (hown : s.vm.findClass own = some m.cls)
    (w1 : (Jvm.Cond.methodLink own index my0).before a0 Z = true) (w2 : (Jvm.Cond.static my0).before a0 Z = true) (w3 : (Jvm.Cond.initialized "java/util/Arrays").before a0 Z = true) (w4 : (Jvm.Cond.code my0 bytes 3 (some (.array .byte))).before a0 Z = true) (wt : ∀ d ∈ own_atoms Jvm.Free.Str.COR.tabW, d.before a0 Z = true)
    {b : Addr} {kb : ClassId} {z : Int32} {vs : List Value} (V : Arv Z h b kb .byte z vs (.int 0)) (hfb : Z.vm.findClass "[B" = some kb) {fr to cap : Nat} (hl : vs.length = z.toNatClampNeg) (h1 : fr ≤ to) (h2 : to ≤ z.toNatClampNeg) (h3 : ¬ (fr = 0 ∧ to = z.toNatClampNeg)) (h4 : z.toNatClampNeg ≤ cap) (h5 : cap ≤ 536870912) {vs' : List Value} (hvs : (vs.drop fr).take (to - fr) = vs') {n : Nat} (hn : to - fr = n) (hn' : n < 2 ^ 31)
    {W : Nat} {rest : List Value} (hf : 3 + 1 ≤ R.frames) (hlo : W + (3 + 11) + 80 ≤ R.locals) (hcl : cells + 1 ≤ R.cells) (hsl : slots + cap ≤ R.slots) (eT : T.heap = h)
    {pc : Nat} {Ls : Array Slot} {st : List Value} {z1 z2 : Int32} (hz1 : z1 = Int32.ofNat fr) (hz2 : z2 = Int32.ofNat to) (hsz : Ls.size = c.maxLocals) (hst : st = .int z2 :: .int z1 :: .ref b :: rest) (hW : 2 * 0 + (rest.map fun v => v.category).sum ≤ W) (hd : decode c.code pc = .ok (.invokestatic index, 3))
    (k : ∀ (r : Addr) (T' : State), Stand p l e R s m args below meth c T' locs (cells + 1) (slots + n) → Ext h T'.heap → h.size ≤ r → Arv Z T'.heap r kb .byte (Int32.ofNat n) vs' (.int 0) → Gl p e below G (T'.setTop (mkF m (pc + 3) Ls (.ref r :: rest)))) : Gl p e below G (T.setTop (mkF m pc Ls st)) := by
  subst hz1 hz2 eT hn hvs
  obtain ⟨arr, ⟨A1, A2, A3⟩, A4, A5, A6, A7, A8⟩ := V
  have hlen : vs.length = arr.slots.size := by rw [hl, A5]
  have eL := own_list A7 hlen
  have hby : ∀ i, i < arr.slots.size → ∃ w, arr.slots[i]? = some (.int w) := fun i hi => by
    obtain ⟨w, hw⟩ := own_fits (A8 i hi)
    exact ⟨w, by rw [A7 i hi, hw]⟩
  have hs31 : arr.slots.size < 2 ^ 31 := by rw [A5]; exact Nat.lt_of_le_of_lt h4 (by omega)
  have tb := own_tab (args := args) hZ wt (by decide +kernel)
  obtain ⟨v, vm1, ⟨T', L', k', n'⟩, hwm, X', ⟨l1, y1, q1, hk, r, A', rfl, B1, B2, B3, B4, B5⟩, stp⟩ := Jvm.LawKit.callS X hx (y := my0) hown (mvT hZ w1) (mvT hZ w2) (mvT hZ w3) (mvT hZ w4) (desc_ne (by decide)) (Jvm.Free.Str.COR.pays (l := l) (R := R) (p := p) (e := e) (below := below) (s := s) (sargs := args) (len := 3) (W := W) cap b arr fr to tb hf hlo) (g := mkF m pc Ls st) rfl hsz (argsL := [.ref b, .int (Int32.ofNat fr), .int (Int32.ofNat to)]) (rest := rest) (lenOf (ps := [.array .byte, .int, .int]) (r := some (.array .byte)) (d := "([BII)[B") (by decide +kernel) rfl) hst hW hd (fun vm₁ hwm => ⟨hcl, hsl, rfl, ⟨A1, State.isArrayOf_alike (hZ.alike.trans hwm.alike) A2, A3, hs31, fun i hi => by
      obtain ⟨w, hw⟩ := hby i hi
      rw [hw]; simp only [Jvm.Lib.StringLatin1.equals.intAt, hw]⟩, h1, by rw [A5]; exact h2, by rw [A5]; exact h3, by rw [A5]; exact h4, h5, fun i hi => by
      rw [Array.getD_eq_getD_getElem?, A7 i hi]; exact A8 i hi, by rw [A4]; show vm₁.findClass "[B" = _; rw [hwm.alike.findClass, hZ.alike.findClass]; exact hfb⟩)
  dsimp only [Pt.U, Pt.locs, Pt.cells, Pt.slots] at X' l1 y1 q1 stp hk B1 B5
  subst l1 y1 q1
  obtain ⟨b1, b2, b3, b4, b5⟩ := B1
  have eA : A'.slots.toList = (vs.drop fr).take (to - fr) := by rw [B2, eL]
  have eS : A'.slots.size = to - fr := by
    rw [← Array.length_toList, eA, List.length_take, List.length_drop]
    omega
  have eG : ∀ i, i < to - fr → ((vs.drop fr).take (to - fr)).getD i (.int 0) = vs.getD (fr + i) (.int 0) := fun i hi => by
    simp [List.getD, List.getElem?_take, hi, List.getElem?_drop]
  refine Gl.of stp (k r T' X' ⟨?_, hk⟩ B5 ⟨A', ⟨b1, State.isArrayOf_alike (hZ.alike.trans X'.warmed.alike).symm b2, b3⟩, by rw [B3, A4], ?_, ?_, ?_, ?_⟩)
  · by_cases q : T.heap.size ≤ T'.heap.size
    · exact q
    · have hpos : T.heap.size - 1 < T.heap.size := by omega
      have := hk _ _ (Array.getElem?_eq_getElem hpos)
      have := (Array.getElem?_eq_some_iff.mp this).1
      omega
  · rw [eS]; exact (own_nat hn').symm
  · exact own_neg hn'
  · intro i hi
    rw [← Array.getElem?_toList, eA]
    have hi' : i < ((vs.drop fr).take (to - fr)).length := by rw [← eA]; simpa using hi
    rw [List.getElem?_eq_getElem hi']
    simp [List.getD, List.getElem?_eq_getElem hi']
  · intro i hi
    rw [eS] at hi
    rw [eG i hi]
    exact A8 _ (by omega)
end OwnCor
theorem w187 (hw : HW Z a0) : (Jvm.Cond.stringLink "java/lang/StringUTF16" (295 : Nat) "").before a0 Z = true := hw _ (wm 187 rfl)
theorem w134 (hw : HW Z a0) : (Jvm.Cond.stringLink "java/lang/StringLatin1" (151 : Nat) "").before a0 Z = true := hw _ (wm 134 rfl)
theorem w35 (hw : HW Z a0) : (Jvm.Cond.stringLink "com/example/rulr/rulr/policy/MembershipSelectionPinLaw" (18 : Nat) "c").before a0 Z = true := hw _ (wm 35 rfl)
theorem w133 (hw : HW Z a0) : (Jvm.Cond.stringLink "com/example/rulr/rulr/policy/MembershipSelectionPinLaw" (9 : Nat) "").before a0 Z = true := hw _ (wm 133 rfl)
def own_emp : List Int32 := []
def own_EL : List (String × Nat) := consts_1
def own_c : List Int32 := [99]
theorem own_el {Z : State} {a0 : Array Value} (hw : HW Z a0) : EW Z a0 own_EL := (EW.cons (w133 hw) (by decide) (EW.cons (w35 hw) (by decide) (EW.cons (w134 hw) (by decide) (EW.cons (w187 hw) (by decide) EW.nil))))
theorem own_cor {Z : State} {a0 : Array Value} (hw : HW Z a0) : ∀ d ∈ own_atoms Jvm.Free.Str.COR.tabW, d.before a0 Z = true := fun d hd => hw d ((by decide +kernel : ∀ d ∈ own_atoms Jvm.Free.Str.COR.tabW, d ∈ tables_1) d hd)
def o8 (c : Int32) : Int32 := nar .byte (c.toInt8.toInt32)
theorem own_u16 (u : UInt16) : (u.toUInt32.toInt32).toInt = u.toNat := by
  have hu := u.toNat_lt
  have e : u.toUInt32.toInt32.toInt = (u.toUInt32.toBitVec).toInt := rfl
  have e2 : u.toUInt32.toBitVec.toNat = u.toNat := UInt16.toNat_toUInt32 u
  rw [e, BitVec.toInt_eq_toNat_of_lt (by rw [e2]; omega), e2]
theorem own_i2c {x : Int32} (h0 : 0 ≤ x.toInt) (h1 : x.toInt ≤ 65535) : x.toUInt32.toUInt16.toUInt32.toInt32 = x := by
  apply Int32.toInt_inj.mp
  rw [own_u16, UInt32.toNat_toUInt16]
  have e : x.toInt = x.toBitVec.toInt := rfl
  have e2 : x.toUInt32.toNat = x.toBitVec.toNat := rfl
  rw [BitVec.toInt_eq_toNat_cond] at e
  have e3 := x.toBitVec.isLt
  rw [e2]
  split at e <;> omega
def rg (c : Int32) : Prop := ¬ c < 0 ∧ ¬ (65535 : Int32) < c
theorem own_nc {c : Int32} (h : rg c) : nar .char c = c := by
  have e0 : (0 : Int32).toInt = 0 := rfl
  have e1 : (65535 : Int32).toInt = 65535 := rfl
  unfold rg at h
  simp only [Int32.lt_iff_toInt_lt] at h
  exact own_i2c (by omega) (by omega)
theorem own_nr (c : Int32) : rg (nar .char c) := by
  have e0 : (0 : Int32).toInt = 0 := rfl
  have e1 : (65535 : Int32).toInt = 65535 := rfl
  have q : (nar .char c).toInt = (c.toUInt32.toUInt16).toNat := own_u16 _
  have u := (c.toUInt32.toUInt16).toNat_lt
  unfold rg
  simp only [Int32.lt_iff_toInt_lt, q]
  omega
def oh (c : Int32) : Int32 := nar .byte ((c >>> ((0 : Int32) &&& 31)).toInt8.toInt32)
def ol (c : Int32) : Int32 := nar .byte ((c >>> ((8 : Int32) &&& 31)).toInt8.toInt32)
def own_gc (u v : Int32) : Int32 := nar .char ((((u &&& (255 : Int32)) <<< ((0 : Int32) &&& 31)) ||| ((v &&& (255 : Int32)) <<< ((8 : Int32) &&& 31))).toUInt32.toUInt16.toUInt32.toInt32)
theorem own_nb8 (x : Int32) : nar .byte (x.toInt8.toInt32) = x.toInt8.toInt32 := by
  show (x.toInt8.toInt32).toInt8.toInt32 = _
  rw [Int8.toInt8_toInt32]
theorem own_gch {c : Int32} (h : rg c) : own_gc (oh c) (ol c) = c := by
  have e : own_gc (oh c) (ol c) = nar .char (StrChars.pairCh (StrChars.lo8 c) (StrChars.hi8 c)) := by
    unfold own_gc oh ol StrChars.pairCh StrChars.hi8 StrChars.lo8
    rw [own_nb8, own_nb8, StrChars.shr0]
  rw [e, StrChars.pair_says h.1 h.2]
  exact own_nc h
theorem own_arx {Z : State} {a0 : Array Value} {h : Heap} {x t : Addr} {k : ClassId} {n : Nat} {ty : FieldType} {z : Int32} {vs : List Value} {d : Value} (E : xS Z h x) (V : Arv Z h t k ty z vs d) (wi : (Jvm.Cond.instantiable "java/lang/String" n).before a0 Z = true) : ¬ t = x := fun q => by
  subst q
  obtain ⟨c1, k1, h1, h2, h3, -⟩ := E
  obtain ⟨c2, ⟨a1, ⟨-, k9, hk9, comp, hkind⟩, -⟩, -⟩ := V
  cases h1.symm.trans a1
  obtain ⟨cy, ky, i1, i2, i3, -⟩ := Cond.instantiable_spec wi
  cases h2.symm.trans i1
  cases hk9.symm.trans i2
  rw [i3] at hkind
  cases hkind
theorem ef_1 (m : MethodId) (x0 : Addr) (x1 : Int32) (x2 : Int32) : entryFrame m #[(.ref x0), (.int x1), (.int x2)] 3 = mkF m 0 #[vr x0, vi x1, vi x2] [] := by first | (simp [entryFrame, mkF, argsToLocals, Value.category, maxLocals]; done) | rfl
theorem pn_0 : plainName "java/lang/StringUTF16" = true := by first | (simp [plainName, overriddenIn]; done) | decide +kernel
theorem d29_0 : decode bc25 0 = .ok (.getstatic 44, 3) := by decide +kernel
theorem w148 (hw : HW Z a0) : (Jvm.Cond.fieldLink "java/lang/StringUTF16" (44 : Nat) "java/lang/StringUTF16" "$assertionsDisabled" "Z").before a0 Z = true := hw _ (wm 148 rfl)
theorem d29_3 : decode bc25 3 = .ok (.ifCond .ne 25, 3) := by decide +kernel
theorem d29_28 : decode bc25 28 = .ok (.iload_n 1, 1) := by decide +kernel
theorem d29_29 : decode bc25 29 = .ok (.iconst 1, 1) := by decide +kernel
theorem d29_30 : decode bc25 30 = .ok (.ishl, 1) := by decide +kernel
theorem d29_31 : decode bc25 31 = .ok (.istore_n 1, 1) := by decide +kernel
theorem d29_32 : decode bc25 32 = .ok (.aload_n 0, 1) := by decide +kernel
theorem d29_33 : decode bc25 33 = .ok (.iload_n 1, 1) := by decide +kernel
theorem d29_34 : decode bc25 34 = .ok (.iinc 1 1, 3) := by decide +kernel
theorem d29_37 : decode bc25 37 = .ok (.iload_n 2, 1) := by decide +kernel
theorem d29_38 : decode bc25 38 = .ok (.getstatic 59, 3) := by decide +kernel
theorem w149 (hw : HW Z a0) : (Jvm.Cond.fieldLink "java/lang/StringUTF16" (59 : Nat) "java/lang/StringUTF16" "HI_BYTE_SHIFT" "I").before a0 Z = true := hw _ (wm 149 rfl)
theorem d29_41 : decode bc25 41 = .ok (.ishr, 1) := by decide +kernel
theorem d29_42 : decode bc25 42 = .ok (.i2b, 1) := by decide +kernel
theorem d29_43 : decode bc25 43 = .ok (.bastore, 1) := by decide +kernel
theorem d29_44 : decode bc25 44 = .ok (.aload_n 0, 1) := by decide +kernel
theorem d29_45 : decode bc25 45 = .ok (.iload_n 1, 1) := by decide +kernel
theorem d29_46 : decode bc25 46 = .ok (.iload_n 2, 1) := by decide +kernel
theorem d29_47 : decode bc25 47 = .ok (.getstatic 63, 3) := by decide +kernel
theorem w150 (hw : HW Z a0) : (Jvm.Cond.fieldLink "java/lang/StringUTF16" (63 : Nat) "java/lang/StringUTF16" "LO_BYTE_SHIFT" "I").before a0 Z = true := hw _ (wm 150 rfl)
theorem d29_50 : decode bc25 50 = .ok (.ishr, 1) := by decide +kernel
theorem d29_51 : decode bc25 51 = .ok (.i2b, 1) := by decide +kernel
theorem d29_52 : decode bc25 52 = .ok (.bastore, 1) := by decide +kernel
theorem d29_53 : decode bc25 53 = .ok (.return_, 1) := by decide +kernel
theorem rmP20 {l : Launch} {Z : State} {a0 : Array Value} (hw : HW Z a0) {h0 : Heap} (a1 : Addr) (kk1 : ClassId) (y0 y1 p3 : Int32) (n0 : Nat) (V1 : Arv Z h0 a1 kk1 .byte (2 : Int32) [.int y0, .int y1] (.int 0)) (Ga1 : n0 ≤ a1) (Sa : sSa Z) (Sh : sSh Z) (Sl : sSl Z) (O0 : Old Z n0 h0) : Con l Z my1 bc25 3 none [] (ro 0 0 0 0) 0 0 #[(.ref a1), (.int 0), (.int p3)] h0 (fun v h L => v = none ∧ Fr n0 L ∧ Keep h0 h [a1] ∧ Arv Z h a1 kk1 .byte (2 : Int32) [.int (oh p3), .int (ol p3)] (.int 0)) := by
  refine Con.intro (plainFor_of_name pn_0) ?_
  intro p e s m below meth c s₁ X0 hx y hml hZ hown hnm hret hlk e0 hs0
  refine gs (fun _ k => castTop (ef_1 m a1 (0 : Int32) p3) k) ?_
  have K0 := Keep.refl h0 [a1]
  show Gf p e below _ s₁ m 0 #[vr a1, vi 0, vi p3] []
  obtain ⟨T1, X1, e1, st1⟩ := getS2 X0 hx hZ hown (host := "") (Or.inl (w148 hw)) Via.refl e0 (Sa.ext O0.2) (g := (mkF m 0 #[vr a1, vi 0, vi p3] [])) rfl (hb y d29_0)
  refine Gl.of st1 ?_
  show Gf p e below _ T1 m 3 #[vr a1, vi 0, vi p3] [(.int 1)]
  refine gs (fun _ k => XS.ifYes X1.here hx rfl (pc0 := 3) (pc' := 28) rfl (hb y d29_3) rfl ((if0 _ _).trans (feq (by decide : ¬ ((1 : Int32) = (0 : Int32)))).2) (by decide) (by decide) (XS.iloadN X1.here hx rfl (hb y d29_28) rfl (XS.iconst X1.here hx rfl (hb y d29_29) (XS.ishl X1.here hx rfl (hb y d29_30) rfl k)))) ?_
  show Gf p e below _ T1 m 31 #[vr a1, vi 0, vi p3] [(.int 0)]
  refine gs (fun _ k => XS.istoreN X1.here hx rfl (hb y d29_31) rfl (l' := #[vr a1, vi 0, vi p3]) rfl (XS.aloadN X1.here hx rfl (hb y d29_32) rfl rfl (XS.iloadN X1.here hx rfl (hb y d29_33) rfl (XS.iinc X1.here hx rfl (hb y d29_34) rfl (l' := #[vr a1, vi 1, vi p3]) rfl (XS.iloadN X1.here hx rfl (hb y d29_37) rfl k))))) ?_
  obtain ⟨T2, X2, e2, st2⟩ := getS2 X1 hx hZ hown (host := "") (Or.inl (w149 hw)) Via.refl e1 (Sh.ext O0.2) (g := (mkF m 38 #[vr a1, vi 1, vi p3] [(.int p3), (.int 0), (.ref a1)])) rfl (hb y d29_38)
  refine Gl.of st2 ?_
  show Gf p e below _ T2 m 41 #[vr a1, vi 1, vi p3] [(.int 0), (.int p3), (.int 0), (.ref a1)]
  refine gs (fun _ k => XS.ishr X2.here hx rfl (hb y d29_41) rfl (XS.i2b X2.here hx rfl (hb y d29_42) rfl k)) ?_
  obtain ⟨zcl3, zAr3, zq3, zS3, zM3, zH3, zG3⟩ := id V1
  obtain ⟨T4, h4, X4, e4, W4, st4⟩ := stB X2 hx hZ e2 zAr3 (j := (0 : Int32)) (inb_of zS3 ⟨by decide, by decide⟩) (g := (mkF m 43 #[vr a1, vi 1, vi p3] [(.int ((p3 >>> ((0 : Int32) &&& 31)).toInt8.toInt32)), (.int 0), (.ref a1)])) rfl rfl (hb y d29_43)
  refine Gl.of st4 ?_
  have V4 : Arv Z h4 a1 kk1 .byte (2 : Int32) [(.int (nar .byte ((p3 >>> ((0 : Int32) &&& 31)).toInt8.toInt32))), (.int y1)] (.int 0) := Arv.set zAr3 zq3 zS3 zM3 zH3 zG3 (fits_nar_byte _) W4 0 rfl (Nat.le_of_ble_eq_true rfl)
  have N4 := Fr.snoc X4 (Fr.nil n0) Ga1
  have O4 := O0.wr W4 Ga1
  have K4 := K0.wr W4 (Or.inl (List.mem_of_getElem? (i := 0) rfl))
  show Gf p e below _ T4 m 44 #[vr a1, vi 1, vi p3] []
  refine gs (fun _ k => XS.aloadN X4.here hx rfl (hb y d29_44) rfl rfl (XS.iloadN X4.here hx rfl (hb y d29_45) rfl (XS.iloadN X4.here hx rfl (hb y d29_46) rfl k))) ?_
  obtain ⟨T5, X5, e5, st5⟩ := getS2 X4 hx hZ hown (host := "") (Or.inl (w150 hw)) Via.refl e4 (Sl.ext O4.2) (g := (mkF m 47 #[vr a1, vi 1, vi p3] [(.int p3), (.int 1), (.ref a1)])) rfl (hb y d29_47)
  refine Gl.of st5 ?_
  show Gf p e below _ T5 m 50 #[vr a1, vi 1, vi p3] [(.int 8), (.int p3), (.int 1), (.ref a1)]
  refine gs (fun _ k => XS.ishr X5.here hx rfl (hb y d29_50) rfl (XS.i2b X5.here hx rfl (hb y d29_51) rfl k)) ?_
  obtain ⟨zcl6, zAr6, zq6, zS6, zM6, zH6, zG6⟩ := id V4
  obtain ⟨T7, h7, X7, e7, W7, st7⟩ := stB X5 hx hZ e5 zAr6 (j := (1 : Int32)) (inb_of zS6 ⟨by decide, by decide⟩) (g := (mkF m 52 #[vr a1, vi 1, vi p3] [(.int ((p3 >>> ((8 : Int32) &&& 31)).toInt8.toInt32)), (.int 1), (.ref a1)])) rfl rfl (hb y d29_52)
  refine Gl.of st7 ?_
  have V7 : Arv Z h7 a1 kk1 .byte (2 : Int32) [(.int (nar .byte ((p3 >>> ((0 : Int32) &&& 31)).toInt8.toInt32))), (.int (nar .byte ((p3 >>> ((8 : Int32) &&& 31)).toInt8.toInt32)))] (.int 0) := Arv.set zAr6 zq6 zS6 zM6 zH6 zG6 (fits_nar_byte _) W7 1 rfl (Nat.le_of_ble_eq_true rfl)
  have N7 := Fr.snoc X7 N4 Ga1
  have O7 := O4.wr W7 Ga1
  have K7 := K4.wr W7 (Or.inl (List.mem_of_getElem? (i := 0) rfl))
  show Gf p e below _ T7 m 53 #[vr a1, vi 1, vi p3] []
  exact Gl.ret0 X7 hx hlk hret (hb y d29_53) e7 (⟨rfl, N7, K7, V7⟩) (by decide) (by decide)
theorem rmP40 {l : Launch} {Z : State} {a0 : Array Value} (hw : HW Z a0) {h0 : Heap} (a1 : Addr) (kk1 : ClassId) (y0 y1 y2 y3 p3 : Int32) (n0 : Nat) (V1 : Arv Z h0 a1 kk1 .byte (4 : Int32) [.int y0, .int y1, .int y2, .int y3] (.int 0)) (Ga1 : n0 ≤ a1) (Sa : sSa Z) (Sh : sSh Z) (Sl : sSl Z) (O0 : Old Z n0 h0) : Con l Z my1 bc25 3 none [] (ro 0 0 0 0) 0 0 #[(.ref a1), (.int 0), (.int p3)] h0 (fun v h L => v = none ∧ Fr n0 L ∧ Keep h0 h [a1] ∧ Arv Z h a1 kk1 .byte (4 : Int32) [.int (oh p3), .int (ol p3), .int y2, .int y3] (.int 0)) := by
  refine Con.intro (plainFor_of_name pn_0) ?_
  intro p e s m below meth c s₁ X0 hx y hml hZ hown hnm hret hlk e0 hs0
  refine gs (fun _ k => castTop (ef_1 m a1 (0 : Int32) p3) k) ?_
  have K0 := Keep.refl h0 [a1]
  show Gf p e below _ s₁ m 0 #[vr a1, vi 0, vi p3] []
  obtain ⟨T1, X1, e1, st1⟩ := getS2 X0 hx hZ hown (host := "") (Or.inl (w148 hw)) Via.refl e0 (Sa.ext O0.2) (g := (mkF m 0 #[vr a1, vi 0, vi p3] [])) rfl (hb y d29_0)
  refine Gl.of st1 ?_
  show Gf p e below _ T1 m 3 #[vr a1, vi 0, vi p3] [(.int 1)]
  refine gs (fun _ k => XS.ifYes X1.here hx rfl (pc0 := 3) (pc' := 28) rfl (hb y d29_3) rfl ((if0 _ _).trans (feq (by decide : ¬ ((1 : Int32) = (0 : Int32)))).2) (by decide) (by decide) (XS.iloadN X1.here hx rfl (hb y d29_28) rfl (XS.iconst X1.here hx rfl (hb y d29_29) (XS.ishl X1.here hx rfl (hb y d29_30) rfl k)))) ?_
  show Gf p e below _ T1 m 31 #[vr a1, vi 0, vi p3] [(.int 0)]
  refine gs (fun _ k => XS.istoreN X1.here hx rfl (hb y d29_31) rfl (l' := #[vr a1, vi 0, vi p3]) rfl (XS.aloadN X1.here hx rfl (hb y d29_32) rfl rfl (XS.iloadN X1.here hx rfl (hb y d29_33) rfl (XS.iinc X1.here hx rfl (hb y d29_34) rfl (l' := #[vr a1, vi 1, vi p3]) rfl (XS.iloadN X1.here hx rfl (hb y d29_37) rfl k))))) ?_
  obtain ⟨T2, X2, e2, st2⟩ := getS2 X1 hx hZ hown (host := "") (Or.inl (w149 hw)) Via.refl e1 (Sh.ext O0.2) (g := (mkF m 38 #[vr a1, vi 1, vi p3] [(.int p3), (.int 0), (.ref a1)])) rfl (hb y d29_38)
  refine Gl.of st2 ?_
  show Gf p e below _ T2 m 41 #[vr a1, vi 1, vi p3] [(.int 0), (.int p3), (.int 0), (.ref a1)]
  refine gs (fun _ k => XS.ishr X2.here hx rfl (hb y d29_41) rfl (XS.i2b X2.here hx rfl (hb y d29_42) rfl k)) ?_
  obtain ⟨zcl3, zAr3, zq3, zS3, zM3, zH3, zG3⟩ := id V1
  obtain ⟨T4, h4, X4, e4, W4, st4⟩ := stB X2 hx hZ e2 zAr3 (j := (0 : Int32)) (inb_of zS3 ⟨by decide, by decide⟩) (g := (mkF m 43 #[vr a1, vi 1, vi p3] [(.int ((p3 >>> ((0 : Int32) &&& 31)).toInt8.toInt32)), (.int 0), (.ref a1)])) rfl rfl (hb y d29_43)
  refine Gl.of st4 ?_
  have V4 : Arv Z h4 a1 kk1 .byte (4 : Int32) [(.int (nar .byte ((p3 >>> ((0 : Int32) &&& 31)).toInt8.toInt32))), (.int y1), (.int y2), (.int y3)] (.int 0) := Arv.set zAr3 zq3 zS3 zM3 zH3 zG3 (fits_nar_byte _) W4 0 rfl (Nat.le_of_ble_eq_true rfl)
  have N4 := Fr.snoc X4 (Fr.nil n0) Ga1
  have O4 := O0.wr W4 Ga1
  have K4 := K0.wr W4 (Or.inl (List.mem_of_getElem? (i := 0) rfl))
  show Gf p e below _ T4 m 44 #[vr a1, vi 1, vi p3] []
  refine gs (fun _ k => XS.aloadN X4.here hx rfl (hb y d29_44) rfl rfl (XS.iloadN X4.here hx rfl (hb y d29_45) rfl (XS.iloadN X4.here hx rfl (hb y d29_46) rfl k))) ?_
  obtain ⟨T5, X5, e5, st5⟩ := getS2 X4 hx hZ hown (host := "") (Or.inl (w150 hw)) Via.refl e4 (Sl.ext O4.2) (g := (mkF m 47 #[vr a1, vi 1, vi p3] [(.int p3), (.int 1), (.ref a1)])) rfl (hb y d29_47)
  refine Gl.of st5 ?_
  show Gf p e below _ T5 m 50 #[vr a1, vi 1, vi p3] [(.int 8), (.int p3), (.int 1), (.ref a1)]
  refine gs (fun _ k => XS.ishr X5.here hx rfl (hb y d29_50) rfl (XS.i2b X5.here hx rfl (hb y d29_51) rfl k)) ?_
  obtain ⟨zcl6, zAr6, zq6, zS6, zM6, zH6, zG6⟩ := id V4
  obtain ⟨T7, h7, X7, e7, W7, st7⟩ := stB X5 hx hZ e5 zAr6 (j := (1 : Int32)) (inb_of zS6 ⟨by decide, by decide⟩) (g := (mkF m 52 #[vr a1, vi 1, vi p3] [(.int ((p3 >>> ((8 : Int32) &&& 31)).toInt8.toInt32)), (.int 1), (.ref a1)])) rfl rfl (hb y d29_52)
  refine Gl.of st7 ?_
  have V7 : Arv Z h7 a1 kk1 .byte (4 : Int32) [(.int (nar .byte ((p3 >>> ((0 : Int32) &&& 31)).toInt8.toInt32))), (.int (nar .byte ((p3 >>> ((8 : Int32) &&& 31)).toInt8.toInt32))), (.int y2), (.int y3)] (.int 0) := Arv.set zAr6 zq6 zS6 zM6 zH6 zG6 (fits_nar_byte _) W7 1 rfl (Nat.le_of_ble_eq_true rfl)
  have N7 := Fr.snoc X7 N4 Ga1
  have O7 := O4.wr W7 Ga1
  have K7 := K4.wr W7 (Or.inl (List.mem_of_getElem? (i := 0) rfl))
  show Gf p e below _ T7 m 53 #[vr a1, vi 1, vi p3] []
  exact Gl.ret0 X7 hx hlk hret (hb y d29_53) e7 (⟨rfl, N7, K7, V7⟩) (by decide) (by decide)
theorem rmP41 {l : Launch} {Z : State} {a0 : Array Value} (hw : HW Z a0) {h0 : Heap} (a1 : Addr) (kk1 : ClassId) (y0 y1 y2 y3 p3 : Int32) (n0 : Nat) (V1 : Arv Z h0 a1 kk1 .byte (4 : Int32) [.int y0, .int y1, .int y2, .int y3] (.int 0)) (Ga1 : n0 ≤ a1) (Sa : sSa Z) (Sh : sSh Z) (Sl : sSl Z) (O0 : Old Z n0 h0) : Con l Z my1 bc25 3 none [] (ro 0 0 0 0) 0 0 #[(.ref a1), (.int 1), (.int p3)] h0 (fun v h L => v = none ∧ Fr n0 L ∧ Keep h0 h [a1] ∧ Arv Z h a1 kk1 .byte (4 : Int32) [.int y0, .int y1, .int (oh p3), .int (ol p3)] (.int 0)) := by
  refine Con.intro (plainFor_of_name pn_0) ?_
  intro p e s m below meth c s₁ X0 hx y hml hZ hown hnm hret hlk e0 hs0
  refine gs (fun _ k => castTop (ef_1 m a1 (1 : Int32) p3) k) ?_
  have K0 := Keep.refl h0 [a1]
  show Gf p e below _ s₁ m 0 #[vr a1, vi 1, vi p3] []
  obtain ⟨T1, X1, e1, st1⟩ := getS2 X0 hx hZ hown (host := "") (Or.inl (w148 hw)) Via.refl e0 (Sa.ext O0.2) (g := (mkF m 0 #[vr a1, vi 1, vi p3] [])) rfl (hb y d29_0)
  refine Gl.of st1 ?_
  show Gf p e below _ T1 m 3 #[vr a1, vi 1, vi p3] [(.int 1)]
  refine gs (fun _ k => XS.ifYes X1.here hx rfl (pc0 := 3) (pc' := 28) rfl (hb y d29_3) rfl ((if0 _ _).trans (feq (by decide : ¬ ((1 : Int32) = (0 : Int32)))).2) (by decide) (by decide) (XS.iloadN X1.here hx rfl (hb y d29_28) rfl (XS.iconst X1.here hx rfl (hb y d29_29) (XS.ishl X1.here hx rfl (hb y d29_30) rfl k)))) ?_
  show Gf p e below _ T1 m 31 #[vr a1, vi 1, vi p3] [(.int 2)]
  refine gs (fun _ k => XS.istoreN X1.here hx rfl (hb y d29_31) rfl (l' := #[vr a1, vi 2, vi p3]) rfl (XS.aloadN X1.here hx rfl (hb y d29_32) rfl rfl (XS.iloadN X1.here hx rfl (hb y d29_33) rfl (XS.iinc X1.here hx rfl (hb y d29_34) rfl (l' := #[vr a1, vi 3, vi p3]) rfl (XS.iloadN X1.here hx rfl (hb y d29_37) rfl k))))) ?_
  obtain ⟨T2, X2, e2, st2⟩ := getS2 X1 hx hZ hown (host := "") (Or.inl (w149 hw)) Via.refl e1 (Sh.ext O0.2) (g := (mkF m 38 #[vr a1, vi 3, vi p3] [(.int p3), (.int 2), (.ref a1)])) rfl (hb y d29_38)
  refine Gl.of st2 ?_
  show Gf p e below _ T2 m 41 #[vr a1, vi 3, vi p3] [(.int 0), (.int p3), (.int 2), (.ref a1)]
  refine gs (fun _ k => XS.ishr X2.here hx rfl (hb y d29_41) rfl (XS.i2b X2.here hx rfl (hb y d29_42) rfl k)) ?_
  obtain ⟨zcl3, zAr3, zq3, zS3, zM3, zH3, zG3⟩ := id V1
  obtain ⟨T4, h4, X4, e4, W4, st4⟩ := stB X2 hx hZ e2 zAr3 (j := (2 : Int32)) (inb_of zS3 ⟨by decide, by decide⟩) (g := (mkF m 43 #[vr a1, vi 3, vi p3] [(.int ((p3 >>> ((0 : Int32) &&& 31)).toInt8.toInt32)), (.int 2), (.ref a1)])) rfl rfl (hb y d29_43)
  refine Gl.of st4 ?_
  have V4 : Arv Z h4 a1 kk1 .byte (4 : Int32) [(.int y0), (.int y1), (.int (nar .byte ((p3 >>> ((0 : Int32) &&& 31)).toInt8.toInt32))), (.int y3)] (.int 0) := Arv.set zAr3 zq3 zS3 zM3 zH3 zG3 (fits_nar_byte _) W4 2 rfl (Nat.le_of_ble_eq_true rfl)
  have N4 := Fr.snoc X4 (Fr.nil n0) Ga1
  have O4 := O0.wr W4 Ga1
  have K4 := K0.wr W4 (Or.inl (List.mem_of_getElem? (i := 0) rfl))
  show Gf p e below _ T4 m 44 #[vr a1, vi 3, vi p3] []
  refine gs (fun _ k => XS.aloadN X4.here hx rfl (hb y d29_44) rfl rfl (XS.iloadN X4.here hx rfl (hb y d29_45) rfl (XS.iloadN X4.here hx rfl (hb y d29_46) rfl k))) ?_
  obtain ⟨T5, X5, e5, st5⟩ := getS2 X4 hx hZ hown (host := "") (Or.inl (w150 hw)) Via.refl e4 (Sl.ext O4.2) (g := (mkF m 47 #[vr a1, vi 3, vi p3] [(.int p3), (.int 3), (.ref a1)])) rfl (hb y d29_47)
  refine Gl.of st5 ?_
  show Gf p e below _ T5 m 50 #[vr a1, vi 3, vi p3] [(.int 8), (.int p3), (.int 3), (.ref a1)]
  refine gs (fun _ k => XS.ishr X5.here hx rfl (hb y d29_50) rfl (XS.i2b X5.here hx rfl (hb y d29_51) rfl k)) ?_
  obtain ⟨zcl6, zAr6, zq6, zS6, zM6, zH6, zG6⟩ := id V4
  obtain ⟨T7, h7, X7, e7, W7, st7⟩ := stB X5 hx hZ e5 zAr6 (j := (3 : Int32)) (inb_of zS6 ⟨by decide, by decide⟩) (g := (mkF m 52 #[vr a1, vi 3, vi p3] [(.int ((p3 >>> ((8 : Int32) &&& 31)).toInt8.toInt32)), (.int 3), (.ref a1)])) rfl rfl (hb y d29_52)
  refine Gl.of st7 ?_
  have V7 : Arv Z h7 a1 kk1 .byte (4 : Int32) [(.int y0), (.int y1), (.int (nar .byte ((p3 >>> ((0 : Int32) &&& 31)).toInt8.toInt32))), (.int (nar .byte ((p3 >>> ((8 : Int32) &&& 31)).toInt8.toInt32)))] (.int 0) := Arv.set zAr6 zq6 zS6 zM6 zH6 zG6 (fits_nar_byte _) W7 3 rfl (Nat.le_of_ble_eq_true rfl)
  have N7 := Fr.snoc X7 N4 Ga1
  have O7 := O4.wr W7 Ga1
  have K7 := K4.wr W7 (Or.inl (List.mem_of_getElem? (i := 0) rfl))
  show Gf p e below _ T7 m 53 #[vr a1, vi 3, vi p3] []
  exact Gl.ret0 X7 hx hlk hret (hb y d29_53) e7 (⟨rfl, N7, K7, V7⟩) (by decide) (by decide)
theorem rmP60 {l : Launch} {Z : State} {a0 : Array Value} (hw : HW Z a0) {h0 : Heap} (a1 : Addr) (kk1 : ClassId) (y0 y1 y2 y3 y4 y5 p3 : Int32) (n0 : Nat) (V1 : Arv Z h0 a1 kk1 .byte (6 : Int32) [.int y0, .int y1, .int y2, .int y3, .int y4, .int y5] (.int 0)) (Ga1 : n0 ≤ a1) (Sa : sSa Z) (Sh : sSh Z) (Sl : sSl Z) (O0 : Old Z n0 h0) : Con l Z my1 bc25 3 none [] (ro 0 0 0 0) 0 0 #[(.ref a1), (.int 0), (.int p3)] h0 (fun v h L => v = none ∧ Fr n0 L ∧ Keep h0 h [a1] ∧ Arv Z h a1 kk1 .byte (6 : Int32) [.int (oh p3), .int (ol p3), .int y2, .int y3, .int y4, .int y5] (.int 0)) := by
  refine Con.intro (plainFor_of_name pn_0) ?_
  intro p e s m below meth c s₁ X0 hx y hml hZ hown hnm hret hlk e0 hs0
  refine gs (fun _ k => castTop (ef_1 m a1 (0 : Int32) p3) k) ?_
  have K0 := Keep.refl h0 [a1]
  show Gf p e below _ s₁ m 0 #[vr a1, vi 0, vi p3] []
  obtain ⟨T1, X1, e1, st1⟩ := getS2 X0 hx hZ hown (host := "") (Or.inl (w148 hw)) Via.refl e0 (Sa.ext O0.2) (g := (mkF m 0 #[vr a1, vi 0, vi p3] [])) rfl (hb y d29_0)
  refine Gl.of st1 ?_
  show Gf p e below _ T1 m 3 #[vr a1, vi 0, vi p3] [(.int 1)]
  refine gs (fun _ k => XS.ifYes X1.here hx rfl (pc0 := 3) (pc' := 28) rfl (hb y d29_3) rfl ((if0 _ _).trans (feq (by decide : ¬ ((1 : Int32) = (0 : Int32)))).2) (by decide) (by decide) (XS.iloadN X1.here hx rfl (hb y d29_28) rfl (XS.iconst X1.here hx rfl (hb y d29_29) (XS.ishl X1.here hx rfl (hb y d29_30) rfl k)))) ?_
  show Gf p e below _ T1 m 31 #[vr a1, vi 0, vi p3] [(.int 0)]
  refine gs (fun _ k => XS.istoreN X1.here hx rfl (hb y d29_31) rfl (l' := #[vr a1, vi 0, vi p3]) rfl (XS.aloadN X1.here hx rfl (hb y d29_32) rfl rfl (XS.iloadN X1.here hx rfl (hb y d29_33) rfl (XS.iinc X1.here hx rfl (hb y d29_34) rfl (l' := #[vr a1, vi 1, vi p3]) rfl (XS.iloadN X1.here hx rfl (hb y d29_37) rfl k))))) ?_
  obtain ⟨T2, X2, e2, st2⟩ := getS2 X1 hx hZ hown (host := "") (Or.inl (w149 hw)) Via.refl e1 (Sh.ext O0.2) (g := (mkF m 38 #[vr a1, vi 1, vi p3] [(.int p3), (.int 0), (.ref a1)])) rfl (hb y d29_38)
  refine Gl.of st2 ?_
  show Gf p e below _ T2 m 41 #[vr a1, vi 1, vi p3] [(.int 0), (.int p3), (.int 0), (.ref a1)]
  refine gs (fun _ k => XS.ishr X2.here hx rfl (hb y d29_41) rfl (XS.i2b X2.here hx rfl (hb y d29_42) rfl k)) ?_
  obtain ⟨zcl3, zAr3, zq3, zS3, zM3, zH3, zG3⟩ := id V1
  obtain ⟨T4, h4, X4, e4, W4, st4⟩ := stB X2 hx hZ e2 zAr3 (j := (0 : Int32)) (inb_of zS3 ⟨by decide, by decide⟩) (g := (mkF m 43 #[vr a1, vi 1, vi p3] [(.int ((p3 >>> ((0 : Int32) &&& 31)).toInt8.toInt32)), (.int 0), (.ref a1)])) rfl rfl (hb y d29_43)
  refine Gl.of st4 ?_
  have V4 : Arv Z h4 a1 kk1 .byte (6 : Int32) [(.int (nar .byte ((p3 >>> ((0 : Int32) &&& 31)).toInt8.toInt32))), (.int y1), (.int y2), (.int y3), (.int y4), (.int y5)] (.int 0) := Arv.set zAr3 zq3 zS3 zM3 zH3 zG3 (fits_nar_byte _) W4 0 rfl (Nat.le_of_ble_eq_true rfl)
  have N4 := Fr.snoc X4 (Fr.nil n0) Ga1
  have O4 := O0.wr W4 Ga1
  have K4 := K0.wr W4 (Or.inl (List.mem_of_getElem? (i := 0) rfl))
  show Gf p e below _ T4 m 44 #[vr a1, vi 1, vi p3] []
  refine gs (fun _ k => XS.aloadN X4.here hx rfl (hb y d29_44) rfl rfl (XS.iloadN X4.here hx rfl (hb y d29_45) rfl (XS.iloadN X4.here hx rfl (hb y d29_46) rfl k))) ?_
  obtain ⟨T5, X5, e5, st5⟩ := getS2 X4 hx hZ hown (host := "") (Or.inl (w150 hw)) Via.refl e4 (Sl.ext O4.2) (g := (mkF m 47 #[vr a1, vi 1, vi p3] [(.int p3), (.int 1), (.ref a1)])) rfl (hb y d29_47)
  refine Gl.of st5 ?_
  show Gf p e below _ T5 m 50 #[vr a1, vi 1, vi p3] [(.int 8), (.int p3), (.int 1), (.ref a1)]
  refine gs (fun _ k => XS.ishr X5.here hx rfl (hb y d29_50) rfl (XS.i2b X5.here hx rfl (hb y d29_51) rfl k)) ?_
  obtain ⟨zcl6, zAr6, zq6, zS6, zM6, zH6, zG6⟩ := id V4
  obtain ⟨T7, h7, X7, e7, W7, st7⟩ := stB X5 hx hZ e5 zAr6 (j := (1 : Int32)) (inb_of zS6 ⟨by decide, by decide⟩) (g := (mkF m 52 #[vr a1, vi 1, vi p3] [(.int ((p3 >>> ((8 : Int32) &&& 31)).toInt8.toInt32)), (.int 1), (.ref a1)])) rfl rfl (hb y d29_52)
  refine Gl.of st7 ?_
  have V7 : Arv Z h7 a1 kk1 .byte (6 : Int32) [(.int (nar .byte ((p3 >>> ((0 : Int32) &&& 31)).toInt8.toInt32))), (.int (nar .byte ((p3 >>> ((8 : Int32) &&& 31)).toInt8.toInt32))), (.int y2), (.int y3), (.int y4), (.int y5)] (.int 0) := Arv.set zAr6 zq6 zS6 zM6 zH6 zG6 (fits_nar_byte _) W7 1 rfl (Nat.le_of_ble_eq_true rfl)
  have N7 := Fr.snoc X7 N4 Ga1
  have O7 := O4.wr W7 Ga1
  have K7 := K4.wr W7 (Or.inl (List.mem_of_getElem? (i := 0) rfl))
  show Gf p e below _ T7 m 53 #[vr a1, vi 1, vi p3] []
  exact Gl.ret0 X7 hx hlk hret (hb y d29_53) e7 (⟨rfl, N7, K7, V7⟩) (by decide) (by decide)
theorem rmP61 {l : Launch} {Z : State} {a0 : Array Value} (hw : HW Z a0) {h0 : Heap} (a1 : Addr) (kk1 : ClassId) (y0 y1 y2 y3 y4 y5 p3 : Int32) (n0 : Nat) (V1 : Arv Z h0 a1 kk1 .byte (6 : Int32) [.int y0, .int y1, .int y2, .int y3, .int y4, .int y5] (.int 0)) (Ga1 : n0 ≤ a1) (Sa : sSa Z) (Sh : sSh Z) (Sl : sSl Z) (O0 : Old Z n0 h0) : Con l Z my1 bc25 3 none [] (ro 0 0 0 0) 0 0 #[(.ref a1), (.int 1), (.int p3)] h0 (fun v h L => v = none ∧ Fr n0 L ∧ Keep h0 h [a1] ∧ Arv Z h a1 kk1 .byte (6 : Int32) [.int y0, .int y1, .int (oh p3), .int (ol p3), .int y4, .int y5] (.int 0)) := by
  refine Con.intro (plainFor_of_name pn_0) ?_
  intro p e s m below meth c s₁ X0 hx y hml hZ hown hnm hret hlk e0 hs0
  refine gs (fun _ k => castTop (ef_1 m a1 (1 : Int32) p3) k) ?_
  have K0 := Keep.refl h0 [a1]
  show Gf p e below _ s₁ m 0 #[vr a1, vi 1, vi p3] []
  obtain ⟨T1, X1, e1, st1⟩ := getS2 X0 hx hZ hown (host := "") (Or.inl (w148 hw)) Via.refl e0 (Sa.ext O0.2) (g := (mkF m 0 #[vr a1, vi 1, vi p3] [])) rfl (hb y d29_0)
  refine Gl.of st1 ?_
  show Gf p e below _ T1 m 3 #[vr a1, vi 1, vi p3] [(.int 1)]
  refine gs (fun _ k => XS.ifYes X1.here hx rfl (pc0 := 3) (pc' := 28) rfl (hb y d29_3) rfl ((if0 _ _).trans (feq (by decide : ¬ ((1 : Int32) = (0 : Int32)))).2) (by decide) (by decide) (XS.iloadN X1.here hx rfl (hb y d29_28) rfl (XS.iconst X1.here hx rfl (hb y d29_29) (XS.ishl X1.here hx rfl (hb y d29_30) rfl k)))) ?_
  show Gf p e below _ T1 m 31 #[vr a1, vi 1, vi p3] [(.int 2)]
  refine gs (fun _ k => XS.istoreN X1.here hx rfl (hb y d29_31) rfl (l' := #[vr a1, vi 2, vi p3]) rfl (XS.aloadN X1.here hx rfl (hb y d29_32) rfl rfl (XS.iloadN X1.here hx rfl (hb y d29_33) rfl (XS.iinc X1.here hx rfl (hb y d29_34) rfl (l' := #[vr a1, vi 3, vi p3]) rfl (XS.iloadN X1.here hx rfl (hb y d29_37) rfl k))))) ?_
  obtain ⟨T2, X2, e2, st2⟩ := getS2 X1 hx hZ hown (host := "") (Or.inl (w149 hw)) Via.refl e1 (Sh.ext O0.2) (g := (mkF m 38 #[vr a1, vi 3, vi p3] [(.int p3), (.int 2), (.ref a1)])) rfl (hb y d29_38)
  refine Gl.of st2 ?_
  show Gf p e below _ T2 m 41 #[vr a1, vi 3, vi p3] [(.int 0), (.int p3), (.int 2), (.ref a1)]
  refine gs (fun _ k => XS.ishr X2.here hx rfl (hb y d29_41) rfl (XS.i2b X2.here hx rfl (hb y d29_42) rfl k)) ?_
  obtain ⟨zcl3, zAr3, zq3, zS3, zM3, zH3, zG3⟩ := id V1
  obtain ⟨T4, h4, X4, e4, W4, st4⟩ := stB X2 hx hZ e2 zAr3 (j := (2 : Int32)) (inb_of zS3 ⟨by decide, by decide⟩) (g := (mkF m 43 #[vr a1, vi 3, vi p3] [(.int ((p3 >>> ((0 : Int32) &&& 31)).toInt8.toInt32)), (.int 2), (.ref a1)])) rfl rfl (hb y d29_43)
  refine Gl.of st4 ?_
  have V4 : Arv Z h4 a1 kk1 .byte (6 : Int32) [(.int y0), (.int y1), (.int (nar .byte ((p3 >>> ((0 : Int32) &&& 31)).toInt8.toInt32))), (.int y3), (.int y4), (.int y5)] (.int 0) := Arv.set zAr3 zq3 zS3 zM3 zH3 zG3 (fits_nar_byte _) W4 2 rfl (Nat.le_of_ble_eq_true rfl)
  have N4 := Fr.snoc X4 (Fr.nil n0) Ga1
  have O4 := O0.wr W4 Ga1
  have K4 := K0.wr W4 (Or.inl (List.mem_of_getElem? (i := 0) rfl))
  show Gf p e below _ T4 m 44 #[vr a1, vi 3, vi p3] []
  refine gs (fun _ k => XS.aloadN X4.here hx rfl (hb y d29_44) rfl rfl (XS.iloadN X4.here hx rfl (hb y d29_45) rfl (XS.iloadN X4.here hx rfl (hb y d29_46) rfl k))) ?_
  obtain ⟨T5, X5, e5, st5⟩ := getS2 X4 hx hZ hown (host := "") (Or.inl (w150 hw)) Via.refl e4 (Sl.ext O4.2) (g := (mkF m 47 #[vr a1, vi 3, vi p3] [(.int p3), (.int 3), (.ref a1)])) rfl (hb y d29_47)
  refine Gl.of st5 ?_
  show Gf p e below _ T5 m 50 #[vr a1, vi 3, vi p3] [(.int 8), (.int p3), (.int 3), (.ref a1)]
  refine gs (fun _ k => XS.ishr X5.here hx rfl (hb y d29_50) rfl (XS.i2b X5.here hx rfl (hb y d29_51) rfl k)) ?_
  obtain ⟨zcl6, zAr6, zq6, zS6, zM6, zH6, zG6⟩ := id V4
  obtain ⟨T7, h7, X7, e7, W7, st7⟩ := stB X5 hx hZ e5 zAr6 (j := (3 : Int32)) (inb_of zS6 ⟨by decide, by decide⟩) (g := (mkF m 52 #[vr a1, vi 3, vi p3] [(.int ((p3 >>> ((8 : Int32) &&& 31)).toInt8.toInt32)), (.int 3), (.ref a1)])) rfl rfl (hb y d29_52)
  refine Gl.of st7 ?_
  have V7 : Arv Z h7 a1 kk1 .byte (6 : Int32) [(.int y0), (.int y1), (.int (nar .byte ((p3 >>> ((0 : Int32) &&& 31)).toInt8.toInt32))), (.int (nar .byte ((p3 >>> ((8 : Int32) &&& 31)).toInt8.toInt32))), (.int y4), (.int y5)] (.int 0) := Arv.set zAr6 zq6 zS6 zM6 zH6 zG6 (fits_nar_byte _) W7 3 rfl (Nat.le_of_ble_eq_true rfl)
  have N7 := Fr.snoc X7 N4 Ga1
  have O7 := O4.wr W7 Ga1
  have K7 := K4.wr W7 (Or.inl (List.mem_of_getElem? (i := 0) rfl))
  show Gf p e below _ T7 m 53 #[vr a1, vi 3, vi p3] []
  exact Gl.ret0 X7 hx hlk hret (hb y d29_53) e7 (⟨rfl, N7, K7, V7⟩) (by decide) (by decide)
theorem rmP62 {l : Launch} {Z : State} {a0 : Array Value} (hw : HW Z a0) {h0 : Heap} (a1 : Addr) (kk1 : ClassId) (y0 y1 y2 y3 y4 y5 p3 : Int32) (n0 : Nat) (V1 : Arv Z h0 a1 kk1 .byte (6 : Int32) [.int y0, .int y1, .int y2, .int y3, .int y4, .int y5] (.int 0)) (Ga1 : n0 ≤ a1) (Sa : sSa Z) (Sh : sSh Z) (Sl : sSl Z) (O0 : Old Z n0 h0) : Con l Z my1 bc25 3 none [] (ro 0 0 0 0) 0 0 #[(.ref a1), (.int 2), (.int p3)] h0 (fun v h L => v = none ∧ Fr n0 L ∧ Keep h0 h [a1] ∧ Arv Z h a1 kk1 .byte (6 : Int32) [.int y0, .int y1, .int y2, .int y3, .int (oh p3), .int (ol p3)] (.int 0)) := by
  refine Con.intro (plainFor_of_name pn_0) ?_
  intro p e s m below meth c s₁ X0 hx y hml hZ hown hnm hret hlk e0 hs0
  refine gs (fun _ k => castTop (ef_1 m a1 (2 : Int32) p3) k) ?_
  have K0 := Keep.refl h0 [a1]
  show Gf p e below _ s₁ m 0 #[vr a1, vi 2, vi p3] []
  obtain ⟨T1, X1, e1, st1⟩ := getS2 X0 hx hZ hown (host := "") (Or.inl (w148 hw)) Via.refl e0 (Sa.ext O0.2) (g := (mkF m 0 #[vr a1, vi 2, vi p3] [])) rfl (hb y d29_0)
  refine Gl.of st1 ?_
  show Gf p e below _ T1 m 3 #[vr a1, vi 2, vi p3] [(.int 1)]
  refine gs (fun _ k => XS.ifYes X1.here hx rfl (pc0 := 3) (pc' := 28) rfl (hb y d29_3) rfl ((if0 _ _).trans (feq (by decide : ¬ ((1 : Int32) = (0 : Int32)))).2) (by decide) (by decide) (XS.iloadN X1.here hx rfl (hb y d29_28) rfl (XS.iconst X1.here hx rfl (hb y d29_29) (XS.ishl X1.here hx rfl (hb y d29_30) rfl k)))) ?_
  show Gf p e below _ T1 m 31 #[vr a1, vi 2, vi p3] [(.int 4)]
  refine gs (fun _ k => XS.istoreN X1.here hx rfl (hb y d29_31) rfl (l' := #[vr a1, vi 4, vi p3]) rfl (XS.aloadN X1.here hx rfl (hb y d29_32) rfl rfl (XS.iloadN X1.here hx rfl (hb y d29_33) rfl (XS.iinc X1.here hx rfl (hb y d29_34) rfl (l' := #[vr a1, vi 5, vi p3]) rfl (XS.iloadN X1.here hx rfl (hb y d29_37) rfl k))))) ?_
  obtain ⟨T2, X2, e2, st2⟩ := getS2 X1 hx hZ hown (host := "") (Or.inl (w149 hw)) Via.refl e1 (Sh.ext O0.2) (g := (mkF m 38 #[vr a1, vi 5, vi p3] [(.int p3), (.int 4), (.ref a1)])) rfl (hb y d29_38)
  refine Gl.of st2 ?_
  show Gf p e below _ T2 m 41 #[vr a1, vi 5, vi p3] [(.int 0), (.int p3), (.int 4), (.ref a1)]
  refine gs (fun _ k => XS.ishr X2.here hx rfl (hb y d29_41) rfl (XS.i2b X2.here hx rfl (hb y d29_42) rfl k)) ?_
  obtain ⟨zcl3, zAr3, zq3, zS3, zM3, zH3, zG3⟩ := id V1
  obtain ⟨T4, h4, X4, e4, W4, st4⟩ := stB X2 hx hZ e2 zAr3 (j := (4 : Int32)) (inb_of zS3 ⟨by decide, by decide⟩) (g := (mkF m 43 #[vr a1, vi 5, vi p3] [(.int ((p3 >>> ((0 : Int32) &&& 31)).toInt8.toInt32)), (.int 4), (.ref a1)])) rfl rfl (hb y d29_43)
  refine Gl.of st4 ?_
  have V4 : Arv Z h4 a1 kk1 .byte (6 : Int32) [(.int y0), (.int y1), (.int y2), (.int y3), (.int (nar .byte ((p3 >>> ((0 : Int32) &&& 31)).toInt8.toInt32))), (.int y5)] (.int 0) := Arv.set zAr3 zq3 zS3 zM3 zH3 zG3 (fits_nar_byte _) W4 4 rfl (Nat.le_of_ble_eq_true rfl)
  have N4 := Fr.snoc X4 (Fr.nil n0) Ga1
  have O4 := O0.wr W4 Ga1
  have K4 := K0.wr W4 (Or.inl (List.mem_of_getElem? (i := 0) rfl))
  show Gf p e below _ T4 m 44 #[vr a1, vi 5, vi p3] []
  refine gs (fun _ k => XS.aloadN X4.here hx rfl (hb y d29_44) rfl rfl (XS.iloadN X4.here hx rfl (hb y d29_45) rfl (XS.iloadN X4.here hx rfl (hb y d29_46) rfl k))) ?_
  obtain ⟨T5, X5, e5, st5⟩ := getS2 X4 hx hZ hown (host := "") (Or.inl (w150 hw)) Via.refl e4 (Sl.ext O4.2) (g := (mkF m 47 #[vr a1, vi 5, vi p3] [(.int p3), (.int 5), (.ref a1)])) rfl (hb y d29_47)
  refine Gl.of st5 ?_
  show Gf p e below _ T5 m 50 #[vr a1, vi 5, vi p3] [(.int 8), (.int p3), (.int 5), (.ref a1)]
  refine gs (fun _ k => XS.ishr X5.here hx rfl (hb y d29_50) rfl (XS.i2b X5.here hx rfl (hb y d29_51) rfl k)) ?_
  obtain ⟨zcl6, zAr6, zq6, zS6, zM6, zH6, zG6⟩ := id V4
  obtain ⟨T7, h7, X7, e7, W7, st7⟩ := stB X5 hx hZ e5 zAr6 (j := (5 : Int32)) (inb_of zS6 ⟨by decide, by decide⟩) (g := (mkF m 52 #[vr a1, vi 5, vi p3] [(.int ((p3 >>> ((8 : Int32) &&& 31)).toInt8.toInt32)), (.int 5), (.ref a1)])) rfl rfl (hb y d29_52)
  refine Gl.of st7 ?_
  have V7 : Arv Z h7 a1 kk1 .byte (6 : Int32) [(.int y0), (.int y1), (.int y2), (.int y3), (.int (nar .byte ((p3 >>> ((0 : Int32) &&& 31)).toInt8.toInt32))), (.int (nar .byte ((p3 >>> ((8 : Int32) &&& 31)).toInt8.toInt32)))] (.int 0) := Arv.set zAr6 zq6 zS6 zM6 zH6 zG6 (fits_nar_byte _) W7 5 rfl (Nat.le_of_ble_eq_true rfl)
  have N7 := Fr.snoc X7 N4 Ga1
  have O7 := O4.wr W7 Ga1
  have K7 := K4.wr W7 (Or.inl (List.mem_of_getElem? (i := 0) rfl))
  show Gf p e below _ T7 m 53 #[vr a1, vi 5, vi p3] []
  exact Gl.ret0 X7 hx hlk hret (hb y d29_53) e7 (⟨rfl, N7, K7, V7⟩) (by decide) (by decide)
theorem rmP80 {l : Launch} {Z : State} {a0 : Array Value} (hw : HW Z a0) {h0 : Heap} (a1 : Addr) (kk1 : ClassId) (y0 y1 y2 y3 y4 y5 y6 y7 p3 : Int32) (n0 : Nat) (V1 : Arv Z h0 a1 kk1 .byte (8 : Int32) [.int y0, .int y1, .int y2, .int y3, .int y4, .int y5, .int y6, .int y7] (.int 0)) (Ga1 : n0 ≤ a1) (Sa : sSa Z) (Sh : sSh Z) (Sl : sSl Z) (O0 : Old Z n0 h0) : Con l Z my1 bc25 3 none [] (ro 0 0 0 0) 0 0 #[(.ref a1), (.int 0), (.int p3)] h0 (fun v h L => v = none ∧ Fr n0 L ∧ Keep h0 h [a1] ∧ Arv Z h a1 kk1 .byte (8 : Int32) [.int (oh p3), .int (ol p3), .int y2, .int y3, .int y4, .int y5, .int y6, .int y7] (.int 0)) := by
  refine Con.intro (plainFor_of_name pn_0) ?_
  intro p e s m below meth c s₁ X0 hx y hml hZ hown hnm hret hlk e0 hs0
  refine gs (fun _ k => castTop (ef_1 m a1 (0 : Int32) p3) k) ?_
  have K0 := Keep.refl h0 [a1]
  show Gf p e below _ s₁ m 0 #[vr a1, vi 0, vi p3] []
  obtain ⟨T1, X1, e1, st1⟩ := getS2 X0 hx hZ hown (host := "") (Or.inl (w148 hw)) Via.refl e0 (Sa.ext O0.2) (g := (mkF m 0 #[vr a1, vi 0, vi p3] [])) rfl (hb y d29_0)
  refine Gl.of st1 ?_
  show Gf p e below _ T1 m 3 #[vr a1, vi 0, vi p3] [(.int 1)]
  refine gs (fun _ k => XS.ifYes X1.here hx rfl (pc0 := 3) (pc' := 28) rfl (hb y d29_3) rfl ((if0 _ _).trans (feq (by decide : ¬ ((1 : Int32) = (0 : Int32)))).2) (by decide) (by decide) (XS.iloadN X1.here hx rfl (hb y d29_28) rfl (XS.iconst X1.here hx rfl (hb y d29_29) (XS.ishl X1.here hx rfl (hb y d29_30) rfl k)))) ?_
  show Gf p e below _ T1 m 31 #[vr a1, vi 0, vi p3] [(.int 0)]
  refine gs (fun _ k => XS.istoreN X1.here hx rfl (hb y d29_31) rfl (l' := #[vr a1, vi 0, vi p3]) rfl (XS.aloadN X1.here hx rfl (hb y d29_32) rfl rfl (XS.iloadN X1.here hx rfl (hb y d29_33) rfl (XS.iinc X1.here hx rfl (hb y d29_34) rfl (l' := #[vr a1, vi 1, vi p3]) rfl (XS.iloadN X1.here hx rfl (hb y d29_37) rfl k))))) ?_
  obtain ⟨T2, X2, e2, st2⟩ := getS2 X1 hx hZ hown (host := "") (Or.inl (w149 hw)) Via.refl e1 (Sh.ext O0.2) (g := (mkF m 38 #[vr a1, vi 1, vi p3] [(.int p3), (.int 0), (.ref a1)])) rfl (hb y d29_38)
  refine Gl.of st2 ?_
  show Gf p e below _ T2 m 41 #[vr a1, vi 1, vi p3] [(.int 0), (.int p3), (.int 0), (.ref a1)]
  refine gs (fun _ k => XS.ishr X2.here hx rfl (hb y d29_41) rfl (XS.i2b X2.here hx rfl (hb y d29_42) rfl k)) ?_
  obtain ⟨zcl3, zAr3, zq3, zS3, zM3, zH3, zG3⟩ := id V1
  obtain ⟨T4, h4, X4, e4, W4, st4⟩ := stB X2 hx hZ e2 zAr3 (j := (0 : Int32)) (inb_of zS3 ⟨by decide, by decide⟩) (g := (mkF m 43 #[vr a1, vi 1, vi p3] [(.int ((p3 >>> ((0 : Int32) &&& 31)).toInt8.toInt32)), (.int 0), (.ref a1)])) rfl rfl (hb y d29_43)
  refine Gl.of st4 ?_
  have V4 : Arv Z h4 a1 kk1 .byte (8 : Int32) [(.int (nar .byte ((p3 >>> ((0 : Int32) &&& 31)).toInt8.toInt32))), (.int y1), (.int y2), (.int y3), (.int y4), (.int y5), (.int y6), (.int y7)] (.int 0) := Arv.set zAr3 zq3 zS3 zM3 zH3 zG3 (fits_nar_byte _) W4 0 rfl (Nat.le_of_ble_eq_true rfl)
  have N4 := Fr.snoc X4 (Fr.nil n0) Ga1
  have O4 := O0.wr W4 Ga1
  have K4 := K0.wr W4 (Or.inl (List.mem_of_getElem? (i := 0) rfl))
  show Gf p e below _ T4 m 44 #[vr a1, vi 1, vi p3] []
  refine gs (fun _ k => XS.aloadN X4.here hx rfl (hb y d29_44) rfl rfl (XS.iloadN X4.here hx rfl (hb y d29_45) rfl (XS.iloadN X4.here hx rfl (hb y d29_46) rfl k))) ?_
  obtain ⟨T5, X5, e5, st5⟩ := getS2 X4 hx hZ hown (host := "") (Or.inl (w150 hw)) Via.refl e4 (Sl.ext O4.2) (g := (mkF m 47 #[vr a1, vi 1, vi p3] [(.int p3), (.int 1), (.ref a1)])) rfl (hb y d29_47)
  refine Gl.of st5 ?_
  show Gf p e below _ T5 m 50 #[vr a1, vi 1, vi p3] [(.int 8), (.int p3), (.int 1), (.ref a1)]
  refine gs (fun _ k => XS.ishr X5.here hx rfl (hb y d29_50) rfl (XS.i2b X5.here hx rfl (hb y d29_51) rfl k)) ?_
  obtain ⟨zcl6, zAr6, zq6, zS6, zM6, zH6, zG6⟩ := id V4
  obtain ⟨T7, h7, X7, e7, W7, st7⟩ := stB X5 hx hZ e5 zAr6 (j := (1 : Int32)) (inb_of zS6 ⟨by decide, by decide⟩) (g := (mkF m 52 #[vr a1, vi 1, vi p3] [(.int ((p3 >>> ((8 : Int32) &&& 31)).toInt8.toInt32)), (.int 1), (.ref a1)])) rfl rfl (hb y d29_52)
  refine Gl.of st7 ?_
  have V7 : Arv Z h7 a1 kk1 .byte (8 : Int32) [(.int (nar .byte ((p3 >>> ((0 : Int32) &&& 31)).toInt8.toInt32))), (.int (nar .byte ((p3 >>> ((8 : Int32) &&& 31)).toInt8.toInt32))), (.int y2), (.int y3), (.int y4), (.int y5), (.int y6), (.int y7)] (.int 0) := Arv.set zAr6 zq6 zS6 zM6 zH6 zG6 (fits_nar_byte _) W7 1 rfl (Nat.le_of_ble_eq_true rfl)
  have N7 := Fr.snoc X7 N4 Ga1
  have O7 := O4.wr W7 Ga1
  have K7 := K4.wr W7 (Or.inl (List.mem_of_getElem? (i := 0) rfl))
  show Gf p e below _ T7 m 53 #[vr a1, vi 1, vi p3] []
  exact Gl.ret0 X7 hx hlk hret (hb y d29_53) e7 (⟨rfl, N7, K7, V7⟩) (by decide) (by decide)
theorem rmP81 {l : Launch} {Z : State} {a0 : Array Value} (hw : HW Z a0) {h0 : Heap} (a1 : Addr) (kk1 : ClassId) (y0 y1 y2 y3 y4 y5 y6 y7 p3 : Int32) (n0 : Nat) (V1 : Arv Z h0 a1 kk1 .byte (8 : Int32) [.int y0, .int y1, .int y2, .int y3, .int y4, .int y5, .int y6, .int y7] (.int 0)) (Ga1 : n0 ≤ a1) (Sa : sSa Z) (Sh : sSh Z) (Sl : sSl Z) (O0 : Old Z n0 h0) : Con l Z my1 bc25 3 none [] (ro 0 0 0 0) 0 0 #[(.ref a1), (.int 1), (.int p3)] h0 (fun v h L => v = none ∧ Fr n0 L ∧ Keep h0 h [a1] ∧ Arv Z h a1 kk1 .byte (8 : Int32) [.int y0, .int y1, .int (oh p3), .int (ol p3), .int y4, .int y5, .int y6, .int y7] (.int 0)) := by
  refine Con.intro (plainFor_of_name pn_0) ?_
  intro p e s m below meth c s₁ X0 hx y hml hZ hown hnm hret hlk e0 hs0
  refine gs (fun _ k => castTop (ef_1 m a1 (1 : Int32) p3) k) ?_
  have K0 := Keep.refl h0 [a1]
  show Gf p e below _ s₁ m 0 #[vr a1, vi 1, vi p3] []
  obtain ⟨T1, X1, e1, st1⟩ := getS2 X0 hx hZ hown (host := "") (Or.inl (w148 hw)) Via.refl e0 (Sa.ext O0.2) (g := (mkF m 0 #[vr a1, vi 1, vi p3] [])) rfl (hb y d29_0)
  refine Gl.of st1 ?_
  show Gf p e below _ T1 m 3 #[vr a1, vi 1, vi p3] [(.int 1)]
  refine gs (fun _ k => XS.ifYes X1.here hx rfl (pc0 := 3) (pc' := 28) rfl (hb y d29_3) rfl ((if0 _ _).trans (feq (by decide : ¬ ((1 : Int32) = (0 : Int32)))).2) (by decide) (by decide) (XS.iloadN X1.here hx rfl (hb y d29_28) rfl (XS.iconst X1.here hx rfl (hb y d29_29) (XS.ishl X1.here hx rfl (hb y d29_30) rfl k)))) ?_
  show Gf p e below _ T1 m 31 #[vr a1, vi 1, vi p3] [(.int 2)]
  refine gs (fun _ k => XS.istoreN X1.here hx rfl (hb y d29_31) rfl (l' := #[vr a1, vi 2, vi p3]) rfl (XS.aloadN X1.here hx rfl (hb y d29_32) rfl rfl (XS.iloadN X1.here hx rfl (hb y d29_33) rfl (XS.iinc X1.here hx rfl (hb y d29_34) rfl (l' := #[vr a1, vi 3, vi p3]) rfl (XS.iloadN X1.here hx rfl (hb y d29_37) rfl k))))) ?_
  obtain ⟨T2, X2, e2, st2⟩ := getS2 X1 hx hZ hown (host := "") (Or.inl (w149 hw)) Via.refl e1 (Sh.ext O0.2) (g := (mkF m 38 #[vr a1, vi 3, vi p3] [(.int p3), (.int 2), (.ref a1)])) rfl (hb y d29_38)
  refine Gl.of st2 ?_
  show Gf p e below _ T2 m 41 #[vr a1, vi 3, vi p3] [(.int 0), (.int p3), (.int 2), (.ref a1)]
  refine gs (fun _ k => XS.ishr X2.here hx rfl (hb y d29_41) rfl (XS.i2b X2.here hx rfl (hb y d29_42) rfl k)) ?_
  obtain ⟨zcl3, zAr3, zq3, zS3, zM3, zH3, zG3⟩ := id V1
  obtain ⟨T4, h4, X4, e4, W4, st4⟩ := stB X2 hx hZ e2 zAr3 (j := (2 : Int32)) (inb_of zS3 ⟨by decide, by decide⟩) (g := (mkF m 43 #[vr a1, vi 3, vi p3] [(.int ((p3 >>> ((0 : Int32) &&& 31)).toInt8.toInt32)), (.int 2), (.ref a1)])) rfl rfl (hb y d29_43)
  refine Gl.of st4 ?_
  have V4 : Arv Z h4 a1 kk1 .byte (8 : Int32) [(.int y0), (.int y1), (.int (nar .byte ((p3 >>> ((0 : Int32) &&& 31)).toInt8.toInt32))), (.int y3), (.int y4), (.int y5), (.int y6), (.int y7)] (.int 0) := Arv.set zAr3 zq3 zS3 zM3 zH3 zG3 (fits_nar_byte _) W4 2 rfl (Nat.le_of_ble_eq_true rfl)
  have N4 := Fr.snoc X4 (Fr.nil n0) Ga1
  have O4 := O0.wr W4 Ga1
  have K4 := K0.wr W4 (Or.inl (List.mem_of_getElem? (i := 0) rfl))
  show Gf p e below _ T4 m 44 #[vr a1, vi 3, vi p3] []
  refine gs (fun _ k => XS.aloadN X4.here hx rfl (hb y d29_44) rfl rfl (XS.iloadN X4.here hx rfl (hb y d29_45) rfl (XS.iloadN X4.here hx rfl (hb y d29_46) rfl k))) ?_
  obtain ⟨T5, X5, e5, st5⟩ := getS2 X4 hx hZ hown (host := "") (Or.inl (w150 hw)) Via.refl e4 (Sl.ext O4.2) (g := (mkF m 47 #[vr a1, vi 3, vi p3] [(.int p3), (.int 3), (.ref a1)])) rfl (hb y d29_47)
  refine Gl.of st5 ?_
  show Gf p e below _ T5 m 50 #[vr a1, vi 3, vi p3] [(.int 8), (.int p3), (.int 3), (.ref a1)]
  refine gs (fun _ k => XS.ishr X5.here hx rfl (hb y d29_50) rfl (XS.i2b X5.here hx rfl (hb y d29_51) rfl k)) ?_
  obtain ⟨zcl6, zAr6, zq6, zS6, zM6, zH6, zG6⟩ := id V4
  obtain ⟨T7, h7, X7, e7, W7, st7⟩ := stB X5 hx hZ e5 zAr6 (j := (3 : Int32)) (inb_of zS6 ⟨by decide, by decide⟩) (g := (mkF m 52 #[vr a1, vi 3, vi p3] [(.int ((p3 >>> ((8 : Int32) &&& 31)).toInt8.toInt32)), (.int 3), (.ref a1)])) rfl rfl (hb y d29_52)
  refine Gl.of st7 ?_
  have V7 : Arv Z h7 a1 kk1 .byte (8 : Int32) [(.int y0), (.int y1), (.int (nar .byte ((p3 >>> ((0 : Int32) &&& 31)).toInt8.toInt32))), (.int (nar .byte ((p3 >>> ((8 : Int32) &&& 31)).toInt8.toInt32))), (.int y4), (.int y5), (.int y6), (.int y7)] (.int 0) := Arv.set zAr6 zq6 zS6 zM6 zH6 zG6 (fits_nar_byte _) W7 3 rfl (Nat.le_of_ble_eq_true rfl)
  have N7 := Fr.snoc X7 N4 Ga1
  have O7 := O4.wr W7 Ga1
  have K7 := K4.wr W7 (Or.inl (List.mem_of_getElem? (i := 0) rfl))
  show Gf p e below _ T7 m 53 #[vr a1, vi 3, vi p3] []
  exact Gl.ret0 X7 hx hlk hret (hb y d29_53) e7 (⟨rfl, N7, K7, V7⟩) (by decide) (by decide)
theorem rmP82 {l : Launch} {Z : State} {a0 : Array Value} (hw : HW Z a0) {h0 : Heap} (a1 : Addr) (kk1 : ClassId) (y0 y1 y2 y3 y4 y5 y6 y7 p3 : Int32) (n0 : Nat) (V1 : Arv Z h0 a1 kk1 .byte (8 : Int32) [.int y0, .int y1, .int y2, .int y3, .int y4, .int y5, .int y6, .int y7] (.int 0)) (Ga1 : n0 ≤ a1) (Sa : sSa Z) (Sh : sSh Z) (Sl : sSl Z) (O0 : Old Z n0 h0) : Con l Z my1 bc25 3 none [] (ro 0 0 0 0) 0 0 #[(.ref a1), (.int 2), (.int p3)] h0 (fun v h L => v = none ∧ Fr n0 L ∧ Keep h0 h [a1] ∧ Arv Z h a1 kk1 .byte (8 : Int32) [.int y0, .int y1, .int y2, .int y3, .int (oh p3), .int (ol p3), .int y6, .int y7] (.int 0)) := by
  refine Con.intro (plainFor_of_name pn_0) ?_
  intro p e s m below meth c s₁ X0 hx y hml hZ hown hnm hret hlk e0 hs0
  refine gs (fun _ k => castTop (ef_1 m a1 (2 : Int32) p3) k) ?_
  have K0 := Keep.refl h0 [a1]
  show Gf p e below _ s₁ m 0 #[vr a1, vi 2, vi p3] []
  obtain ⟨T1, X1, e1, st1⟩ := getS2 X0 hx hZ hown (host := "") (Or.inl (w148 hw)) Via.refl e0 (Sa.ext O0.2) (g := (mkF m 0 #[vr a1, vi 2, vi p3] [])) rfl (hb y d29_0)
  refine Gl.of st1 ?_
  show Gf p e below _ T1 m 3 #[vr a1, vi 2, vi p3] [(.int 1)]
  refine gs (fun _ k => XS.ifYes X1.here hx rfl (pc0 := 3) (pc' := 28) rfl (hb y d29_3) rfl ((if0 _ _).trans (feq (by decide : ¬ ((1 : Int32) = (0 : Int32)))).2) (by decide) (by decide) (XS.iloadN X1.here hx rfl (hb y d29_28) rfl (XS.iconst X1.here hx rfl (hb y d29_29) (XS.ishl X1.here hx rfl (hb y d29_30) rfl k)))) ?_
  show Gf p e below _ T1 m 31 #[vr a1, vi 2, vi p3] [(.int 4)]
  refine gs (fun _ k => XS.istoreN X1.here hx rfl (hb y d29_31) rfl (l' := #[vr a1, vi 4, vi p3]) rfl (XS.aloadN X1.here hx rfl (hb y d29_32) rfl rfl (XS.iloadN X1.here hx rfl (hb y d29_33) rfl (XS.iinc X1.here hx rfl (hb y d29_34) rfl (l' := #[vr a1, vi 5, vi p3]) rfl (XS.iloadN X1.here hx rfl (hb y d29_37) rfl k))))) ?_
  obtain ⟨T2, X2, e2, st2⟩ := getS2 X1 hx hZ hown (host := "") (Or.inl (w149 hw)) Via.refl e1 (Sh.ext O0.2) (g := (mkF m 38 #[vr a1, vi 5, vi p3] [(.int p3), (.int 4), (.ref a1)])) rfl (hb y d29_38)
  refine Gl.of st2 ?_
  show Gf p e below _ T2 m 41 #[vr a1, vi 5, vi p3] [(.int 0), (.int p3), (.int 4), (.ref a1)]
  refine gs (fun _ k => XS.ishr X2.here hx rfl (hb y d29_41) rfl (XS.i2b X2.here hx rfl (hb y d29_42) rfl k)) ?_
  obtain ⟨zcl3, zAr3, zq3, zS3, zM3, zH3, zG3⟩ := id V1
  obtain ⟨T4, h4, X4, e4, W4, st4⟩ := stB X2 hx hZ e2 zAr3 (j := (4 : Int32)) (inb_of zS3 ⟨by decide, by decide⟩) (g := (mkF m 43 #[vr a1, vi 5, vi p3] [(.int ((p3 >>> ((0 : Int32) &&& 31)).toInt8.toInt32)), (.int 4), (.ref a1)])) rfl rfl (hb y d29_43)
  refine Gl.of st4 ?_
  have V4 : Arv Z h4 a1 kk1 .byte (8 : Int32) [(.int y0), (.int y1), (.int y2), (.int y3), (.int (nar .byte ((p3 >>> ((0 : Int32) &&& 31)).toInt8.toInt32))), (.int y5), (.int y6), (.int y7)] (.int 0) := Arv.set zAr3 zq3 zS3 zM3 zH3 zG3 (fits_nar_byte _) W4 4 rfl (Nat.le_of_ble_eq_true rfl)
  have N4 := Fr.snoc X4 (Fr.nil n0) Ga1
  have O4 := O0.wr W4 Ga1
  have K4 := K0.wr W4 (Or.inl (List.mem_of_getElem? (i := 0) rfl))
  show Gf p e below _ T4 m 44 #[vr a1, vi 5, vi p3] []
  refine gs (fun _ k => XS.aloadN X4.here hx rfl (hb y d29_44) rfl rfl (XS.iloadN X4.here hx rfl (hb y d29_45) rfl (XS.iloadN X4.here hx rfl (hb y d29_46) rfl k))) ?_
  obtain ⟨T5, X5, e5, st5⟩ := getS2 X4 hx hZ hown (host := "") (Or.inl (w150 hw)) Via.refl e4 (Sl.ext O4.2) (g := (mkF m 47 #[vr a1, vi 5, vi p3] [(.int p3), (.int 5), (.ref a1)])) rfl (hb y d29_47)
  refine Gl.of st5 ?_
  show Gf p e below _ T5 m 50 #[vr a1, vi 5, vi p3] [(.int 8), (.int p3), (.int 5), (.ref a1)]
  refine gs (fun _ k => XS.ishr X5.here hx rfl (hb y d29_50) rfl (XS.i2b X5.here hx rfl (hb y d29_51) rfl k)) ?_
  obtain ⟨zcl6, zAr6, zq6, zS6, zM6, zH6, zG6⟩ := id V4
  obtain ⟨T7, h7, X7, e7, W7, st7⟩ := stB X5 hx hZ e5 zAr6 (j := (5 : Int32)) (inb_of zS6 ⟨by decide, by decide⟩) (g := (mkF m 52 #[vr a1, vi 5, vi p3] [(.int ((p3 >>> ((8 : Int32) &&& 31)).toInt8.toInt32)), (.int 5), (.ref a1)])) rfl rfl (hb y d29_52)
  refine Gl.of st7 ?_
  have V7 : Arv Z h7 a1 kk1 .byte (8 : Int32) [(.int y0), (.int y1), (.int y2), (.int y3), (.int (nar .byte ((p3 >>> ((0 : Int32) &&& 31)).toInt8.toInt32))), (.int (nar .byte ((p3 >>> ((8 : Int32) &&& 31)).toInt8.toInt32))), (.int y6), (.int y7)] (.int 0) := Arv.set zAr6 zq6 zS6 zM6 zH6 zG6 (fits_nar_byte _) W7 5 rfl (Nat.le_of_ble_eq_true rfl)
  have N7 := Fr.snoc X7 N4 Ga1
  have O7 := O4.wr W7 Ga1
  have K7 := K4.wr W7 (Or.inl (List.mem_of_getElem? (i := 0) rfl))
  show Gf p e below _ T7 m 53 #[vr a1, vi 5, vi p3] []
  exact Gl.ret0 X7 hx hlk hret (hb y d29_53) e7 (⟨rfl, N7, K7, V7⟩) (by decide) (by decide)
theorem rmP83 {l : Launch} {Z : State} {a0 : Array Value} (hw : HW Z a0) {h0 : Heap} (a1 : Addr) (kk1 : ClassId) (y0 y1 y2 y3 y4 y5 y6 y7 p3 : Int32) (n0 : Nat) (V1 : Arv Z h0 a1 kk1 .byte (8 : Int32) [.int y0, .int y1, .int y2, .int y3, .int y4, .int y5, .int y6, .int y7] (.int 0)) (Ga1 : n0 ≤ a1) (Sa : sSa Z) (Sh : sSh Z) (Sl : sSl Z) (O0 : Old Z n0 h0) : Con l Z my1 bc25 3 none [] (ro 0 0 0 0) 0 0 #[(.ref a1), (.int 3), (.int p3)] h0 (fun v h L => v = none ∧ Fr n0 L ∧ Keep h0 h [a1] ∧ Arv Z h a1 kk1 .byte (8 : Int32) [.int y0, .int y1, .int y2, .int y3, .int y4, .int y5, .int (oh p3), .int (ol p3)] (.int 0)) := by
  refine Con.intro (plainFor_of_name pn_0) ?_
  intro p e s m below meth c s₁ X0 hx y hml hZ hown hnm hret hlk e0 hs0
  refine gs (fun _ k => castTop (ef_1 m a1 (3 : Int32) p3) k) ?_
  have K0 := Keep.refl h0 [a1]
  show Gf p e below _ s₁ m 0 #[vr a1, vi 3, vi p3] []
  obtain ⟨T1, X1, e1, st1⟩ := getS2 X0 hx hZ hown (host := "") (Or.inl (w148 hw)) Via.refl e0 (Sa.ext O0.2) (g := (mkF m 0 #[vr a1, vi 3, vi p3] [])) rfl (hb y d29_0)
  refine Gl.of st1 ?_
  show Gf p e below _ T1 m 3 #[vr a1, vi 3, vi p3] [(.int 1)]
  refine gs (fun _ k => XS.ifYes X1.here hx rfl (pc0 := 3) (pc' := 28) rfl (hb y d29_3) rfl ((if0 _ _).trans (feq (by decide : ¬ ((1 : Int32) = (0 : Int32)))).2) (by decide) (by decide) (XS.iloadN X1.here hx rfl (hb y d29_28) rfl (XS.iconst X1.here hx rfl (hb y d29_29) (XS.ishl X1.here hx rfl (hb y d29_30) rfl k)))) ?_
  show Gf p e below _ T1 m 31 #[vr a1, vi 3, vi p3] [(.int 6)]
  refine gs (fun _ k => XS.istoreN X1.here hx rfl (hb y d29_31) rfl (l' := #[vr a1, vi 6, vi p3]) rfl (XS.aloadN X1.here hx rfl (hb y d29_32) rfl rfl (XS.iloadN X1.here hx rfl (hb y d29_33) rfl (XS.iinc X1.here hx rfl (hb y d29_34) rfl (l' := #[vr a1, vi 7, vi p3]) rfl (XS.iloadN X1.here hx rfl (hb y d29_37) rfl k))))) ?_
  obtain ⟨T2, X2, e2, st2⟩ := getS2 X1 hx hZ hown (host := "") (Or.inl (w149 hw)) Via.refl e1 (Sh.ext O0.2) (g := (mkF m 38 #[vr a1, vi 7, vi p3] [(.int p3), (.int 6), (.ref a1)])) rfl (hb y d29_38)
  refine Gl.of st2 ?_
  show Gf p e below _ T2 m 41 #[vr a1, vi 7, vi p3] [(.int 0), (.int p3), (.int 6), (.ref a1)]
  refine gs (fun _ k => XS.ishr X2.here hx rfl (hb y d29_41) rfl (XS.i2b X2.here hx rfl (hb y d29_42) rfl k)) ?_
  obtain ⟨zcl3, zAr3, zq3, zS3, zM3, zH3, zG3⟩ := id V1
  obtain ⟨T4, h4, X4, e4, W4, st4⟩ := stB X2 hx hZ e2 zAr3 (j := (6 : Int32)) (inb_of zS3 ⟨by decide, by decide⟩) (g := (mkF m 43 #[vr a1, vi 7, vi p3] [(.int ((p3 >>> ((0 : Int32) &&& 31)).toInt8.toInt32)), (.int 6), (.ref a1)])) rfl rfl (hb y d29_43)
  refine Gl.of st4 ?_
  have V4 : Arv Z h4 a1 kk1 .byte (8 : Int32) [(.int y0), (.int y1), (.int y2), (.int y3), (.int y4), (.int y5), (.int (nar .byte ((p3 >>> ((0 : Int32) &&& 31)).toInt8.toInt32))), (.int y7)] (.int 0) := Arv.set zAr3 zq3 zS3 zM3 zH3 zG3 (fits_nar_byte _) W4 6 rfl (Nat.le_of_ble_eq_true rfl)
  have N4 := Fr.snoc X4 (Fr.nil n0) Ga1
  have O4 := O0.wr W4 Ga1
  have K4 := K0.wr W4 (Or.inl (List.mem_of_getElem? (i := 0) rfl))
  show Gf p e below _ T4 m 44 #[vr a1, vi 7, vi p3] []
  refine gs (fun _ k => XS.aloadN X4.here hx rfl (hb y d29_44) rfl rfl (XS.iloadN X4.here hx rfl (hb y d29_45) rfl (XS.iloadN X4.here hx rfl (hb y d29_46) rfl k))) ?_
  obtain ⟨T5, X5, e5, st5⟩ := getS2 X4 hx hZ hown (host := "") (Or.inl (w150 hw)) Via.refl e4 (Sl.ext O4.2) (g := (mkF m 47 #[vr a1, vi 7, vi p3] [(.int p3), (.int 7), (.ref a1)])) rfl (hb y d29_47)
  refine Gl.of st5 ?_
  show Gf p e below _ T5 m 50 #[vr a1, vi 7, vi p3] [(.int 8), (.int p3), (.int 7), (.ref a1)]
  refine gs (fun _ k => XS.ishr X5.here hx rfl (hb y d29_50) rfl (XS.i2b X5.here hx rfl (hb y d29_51) rfl k)) ?_
  obtain ⟨zcl6, zAr6, zq6, zS6, zM6, zH6, zG6⟩ := id V4
  obtain ⟨T7, h7, X7, e7, W7, st7⟩ := stB X5 hx hZ e5 zAr6 (j := (7 : Int32)) (inb_of zS6 ⟨by decide, by decide⟩) (g := (mkF m 52 #[vr a1, vi 7, vi p3] [(.int ((p3 >>> ((8 : Int32) &&& 31)).toInt8.toInt32)), (.int 7), (.ref a1)])) rfl rfl (hb y d29_52)
  refine Gl.of st7 ?_
  have V7 : Arv Z h7 a1 kk1 .byte (8 : Int32) [(.int y0), (.int y1), (.int y2), (.int y3), (.int y4), (.int y5), (.int (nar .byte ((p3 >>> ((0 : Int32) &&& 31)).toInt8.toInt32))), (.int (nar .byte ((p3 >>> ((8 : Int32) &&& 31)).toInt8.toInt32)))] (.int 0) := Arv.set zAr6 zq6 zS6 zM6 zH6 zG6 (fits_nar_byte _) W7 7 rfl (Nat.le_of_ble_eq_true rfl)
  have N7 := Fr.snoc X7 N4 Ga1
  have O7 := O4.wr W7 Ga1
  have K7 := K4.wr W7 (Or.inl (List.mem_of_getElem? (i := 0) rfl))
  show Gf p e below _ T7 m 53 #[vr a1, vi 7, vi p3] []
  exact Gl.ret0 X7 hx hlk hret (hb y d29_53) e7 (⟨rfl, N7, K7, V7⟩) (by decide) (by decide)
theorem ef_2 (m : MethodId) (x0 : Int32) : entryFrame m #[(.int x0)] 1 = mkF m 0 #[vi x0] [] := by first | (simp [entryFrame, mkF, argsToLocals, Value.category, maxLocals]; done) | rfl
theorem d28_0 : decode bc24 0 = .ok (.iload_n 0, 1) := by decide +kernel
theorem d28_1 : decode bc24 1 = .ok (.ifCond .ge 11, 3) := by decide +kernel
theorem d28_12 : decode bc24 12 = .ok (.iload_n 0, 1) := by decide +kernel
theorem d28_13 : decode bc24 13 = .ok (.ldc 20, 2) := by decide +kernel
theorem w144 (hw : HW Z a0) : (Jvm.Cond.constant "java/lang/StringUTF16" (20 : Nat) (1073741823 : Int32)).before a0 Z = true := hw _ (wm 144 rfl)
theorem d28_15 : decode bc24 15 = .ok (.if_icmp .lt 40, 3) := by decide +kernel
theorem d28_55 : decode bc24 55 = .ok (.iload_n 0, 1) := by decide +kernel
theorem d28_56 : decode bc24 56 = .ok (.iconst 1, 1) := by decide +kernel
theorem d28_57 : decode bc24 57 = .ok (.ishl, 1) := by decide +kernel
theorem d28_58 : decode bc24 58 = .ok (.ireturn, 1) := by decide +kernel
theorem rmL1 {l : Launch} {Z : State} {a0 : Array Value} (hw : HW Z a0) {h0 : Heap} : Con l Z my2 bc24 1 (some .int) [] (ro 0 0 0 0) 0 0 #[(.int 1)] h0 (Pur (fun v => v = some (.int 2)) h0) := by
  refine Con.intro (plainFor_of_name pn_0) ?_
  intro p e s m below meth c s₁ X0 hx y hml hZ hown hnm hret hlk e0 hs0
  refine gs (fun _ k => castTop (ef_2 m (1 : Int32)) k) ?_
  show Gf p e below _ s₁ m 0 #[vi 1] []
  refine gs (fun _ k => XS.iloadN X0.here hx rfl (hb y d28_0) rfl (XS.ifYes X0.here hx rfl (pc0 := 1) (pc' := 12) rfl (hb y d28_1) rfl ((if0 _ _).trans (flt (by decide : ¬ ((1 : Int32) < (0 : Int32)))).2.1) (by decide) (by decide) (XS.iloadN X0.here hx rfl (hb y d28_12) rfl (X0.ldcInt hx hown (mvT hZ (w144 hw)) (g := (mkF m 13 #[vi 1] [(.int 1)])) rfl (hb y d28_13) _ (XS.icmpYes X0.here hx rfl (pc0 := 15) (pc' := 55) rfl (hb y d28_15) rfl (tlt (by decide : (1 : Int32) < (1073741823 : Int32))).1 (by decide) (by decide) (XS.iloadN X0.here hx rfl (hb y d28_55) rfl k)))))) ?_
  show Gf p e below _ s₁ m 56 #[vi 1] [(.int 1)]
  refine gs (fun _ k => XS.iconst X0.here hx rfl (hb y d28_56) (XS.ishl X0.here hx rfl (hb y d28_57) rfl k)) ?_
  show Gf p e below _ s₁ m 58 #[vi 1] [(.int 2)]
  exact Gl.retI X0 hx hlk hret (hb y d28_58) e0 (⟨rfl, rfl, rfl⟩) (by decide) (by decide)
theorem ef_3 (m : MethodId) (x0 : Int32) : entryFrame m #[(.int x0)] 1 = mkF m 0 #[vi x0] [] := by first | (simp [entryFrame, mkF, argsToLocals, Value.category, maxLocals]; done) | rfl
theorem d27_0 : decode bc23 0 = .ok (.iload_n 0, 1) := by decide +kernel
theorem d27_1 : decode bc23 1 = .ok (.invokestatic 11, 3) := by decide +kernel
theorem pd_0 : parseMethodDescriptor "(I)I" = some ⟨[.int], some .int⟩ := by decide +kernel
theorem w141 (hw : HW Z a0) : (Jvm.Cond.methodLink "java/lang/StringUTF16" (11 : Nat) ⟨"java/lang/StringUTF16", "newBytesLength", "(I)I"⟩).before a0 Z = true := hw _ (wm 141 rfl)
theorem w142 (hw : HW Z a0) : (Jvm.Cond.static ⟨"java/lang/StringUTF16", "newBytesLength", "(I)I"⟩).before a0 Z = true := hw _ (wm 142 rfl)
theorem w19 (hw : HW Z a0) : (Jvm.Cond.initialized "java/lang/StringUTF16").before a0 Z = true := hw _ (wm 19 rfl)
theorem w143 (hw : HW Z a0) : (Jvm.Cond.code ⟨"java/lang/StringUTF16", "newBytesLength", "(I)I"⟩ bc24 (1 : Nat) (Option.some Jvm.ClassFile.FieldType.int)).before a0 Z = true := hw _ (wm 143 rfl)
theorem d27_4 : decode bc23 4 = .ok (.newarray .byte, 2) := by decide +kernel
theorem w21 (hw : HW Z a0) : (Jvm.Cond.arrayClass Jvm.ClassFile.FieldType.byte).before a0 Z = true := hw _ (wm 21 rfl)
theorem d27_6 : decode bc23 6 = .ok (.areturn, 1) := by decide +kernel
theorem rmF1 {l : Launch} {Z : State} {a0 : Array Value} (hw : HW Z a0) {h0 : Heap} (kB : ClassId) (n0 : Nat) (hfb : Z.vm.findClass "[B" = some kB) (O0 : Old Z n0 h0) : Con l Z my3 bc23 1 (some (.array .byte)) [] (ro 1 1 2 13) 1 2 #[(.int 1)] h0 (fun v h L => ∃ r, v = some (.ref r) ∧ Arv Z h r kB .byte (2 : Int32) [.int (0 : Int32), .int (0 : Int32)] (.int 0) ∧ Keep h0 h [] ∧ Fr n0 L ∧ n0 ≤ r ∧ h0.size ≤ r) := by
  refine Con.intro (plainFor_of_name pn_0) ?_
  intro p e s m below meth c s₁ X0 hx y hml hZ hown hnm hret hlk e0 hs0
  refine gs (fun _ k => castTop (ef_3 m (1 : Int32)) k) ?_
  have K0 := Keep.refl h0 []
  show Gf p e below _ s₁ m 0 #[vi 1] []
  refine gs (fun _ k => XS.iloadN X0.here hx rfl (hb y d27_0) rfl k) ?_
  refine Gl.callS0 X0 hx hZ (y := my2) hown (w141 hw) (w142 hw) (w19 hw) (w143 hw) (desc_ne (by decide)) (argsL := [(.int 1)]) (rest := []) (rmL1 hw) 0 (by decide) (by decide) e0 hml.symm pd_0 rfl rfl (Nat.le_of_eq rfl) (hb y d27_1) (by decide) (by decide) ?_
  intro v1 T1 X1 e1 hv1
  subst hv1
  show Gf p e below _ T1 m 4 #[vi 1] [(.int 2)]
  obtain ⟨T2, h2, k2, X2, e2, E2, A2, Ex2, st2⟩ := newPE (aty := .byte) X1 hx hZ (w21 hw) e1 (g := (mkF m 4 #[vi 1] [(.int 2)])) rfl (hb y d27_4) rfl (by decide) (cap := 2) (by decide) (by decide) (by decide) (by decide) (ad := "[B") rfl
  have kq2 := own_fbn A2 Ex2 hfb
  rw [kq2] at A2
  obtain ⟨b2, g2⟩ : ∃ z, z = h0.size := ⟨_, rfl⟩
  rw [← g2] at A2 st2
  refine Gl.of st2 ?_
  have Gb2 : n0 ≤ b2 := Nat.le_trans (O0.1 ▸ O0.2.1) (Nat.le_of_eq g2.symm)
  have Jb2 : h0.size ≤ b2 := Nat.le_trans K0.1 (Nat.le_of_eq g2.symm)
  have O2 := O0.ext E2
  have K2 := K0.ext E2
  have V2 : Arv Z h2 b2 kB .byte (2 : Int32) [(.int 0), (.int 0)] (.int 0) := (Arv.new A2 (by decide)).pad (pad_rep [] (.int 0) 2)
  show Gf p e below _ T2 m 6 #[vi 1] [(.ref b2)]
  exact Gl.retR X2 hx hlk hret rfl rfl (hb y d27_6) e2 (⟨_, rfl, V2, K2, (Fr.nil n0), Gb2, Jb2⟩) (by decide) (by decide)
theorem ef_4 (m : MethodId) (x0 : Addr) (x1 : Int32) (x2 : Int32) : entryFrame m #[(.ref x0), (.int x1), (.int x2)] 5 = mkF m 0 #[vr x0, vi x1, vi x2, vu, vu] [] := by first | (simp [entryFrame, mkF, argsToLocals, Value.category, maxLocals]; done) | rfl
theorem d26_0 : decode bc17 0 = .ok (.iload_n 2, 1) := by decide +kernel
theorem d26_1 : decode bc17 1 = .ok (.invokestatic 107, 3) := by decide +kernel
theorem pd_1 : parseMethodDescriptor "(I)[B" = some ⟨[.int], some (.array .byte)⟩ := by decide +kernel
theorem w138 (hw : HW Z a0) : (Jvm.Cond.methodLink "java/lang/StringUTF16" (107 : Nat) ⟨"java/lang/StringUTF16", "newBytesFor", "(I)[B"⟩).before a0 Z = true := hw _ (wm 138 rfl)
theorem w139 (hw : HW Z a0) : (Jvm.Cond.static ⟨"java/lang/StringUTF16", "newBytesFor", "(I)[B"⟩).before a0 Z = true := hw _ (wm 139 rfl)
theorem w140 (hw : HW Z a0) : (Jvm.Cond.code ⟨"java/lang/StringUTF16", "newBytesFor", "(I)[B"⟩ bc23 (1 : Nat) (Option.some (Jvm.ClassFile.FieldType.array Jvm.ClassFile.FieldType.byte))).before a0 Z = true := hw _ (wm 140 rfl)
theorem d26_4 : decode bc17 4 = .ok (.astore_n 3, 1) := by decide +kernel
theorem d26_5 : decode bc17 5 = .ok (.iconst 0, 1) := by decide +kernel
theorem d26_6 : decode bc17 6 = .ok (.istore 4, 2) := by decide +kernel
theorem d26_8 : decode bc17 8 = .ok (.iload 4, 2) := by decide +kernel
theorem d26_10 : decode bc17 10 = .ok (.iload_n 2, 1) := by decide +kernel
theorem d26_11 : decode bc17 11 = .ok (.if_icmp .ge 21, 3) := by decide +kernel
theorem d26_14 : decode bc17 14 = .ok (.aload_n 3, 1) := by decide +kernel
theorem d26_15 : decode bc17 15 = .ok (.iload 4, 2) := by decide +kernel
theorem d26_17 : decode bc17 17 = .ok (.aload_n 0, 1) := by decide +kernel
theorem d26_18 : decode bc17 18 = .ok (.iload_n 1, 1) := by decide +kernel
theorem d26_19 : decode bc17 19 = .ok (.caload, 1) := by decide +kernel
theorem d26_20 : decode bc17 20 = .ok (.invokestatic 111, 3) := by decide +kernel
theorem pd_2 : parseMethodDescriptor "([BII)V" = some ⟨[(.array .byte), .int, .int], none⟩ := by decide +kernel
theorem w145 (hw : HW Z a0) : (Jvm.Cond.methodLink "java/lang/StringUTF16" (111 : Nat) ⟨"java/lang/StringUTF16", "putChar", "([BII)V"⟩).before a0 Z = true := hw _ (wm 145 rfl)
theorem w146 (hw : HW Z a0) : (Jvm.Cond.static ⟨"java/lang/StringUTF16", "putChar", "([BII)V"⟩).before a0 Z = true := hw _ (wm 146 rfl)
theorem w147 (hw : HW Z a0) : (Jvm.Cond.code ⟨"java/lang/StringUTF16", "putChar", "([BII)V"⟩ bc25 (3 : Nat) (Option.none : Option Jvm.ClassFile.FieldType)).before a0 Z = true := hw _ (wm 147 rfl)
theorem d26_23 : decode bc17 23 = .ok (.iinc 1 1, 3) := by decide +kernel
theorem d26_26 : decode bc17 26 = .ok (.iinc 4 1, 3) := by decide +kernel
theorem d26_29 : decode bc17 29 = .ok (.goto (-21), 3) := by decide +kernel
theorem d26_32 : decode bc17 32 = .ok (.aload_n 3, 1) := by decide +kernel
theorem d26_33 : decode bc17 33 = .ok (.areturn, 1) := by decide +kernel
theorem rmB1 {l : Launch} {Z : State} {a0 : Array Value} (hw : HW Z a0) {h0 : Heap} (a1 : Addr) (kk1 kB : ClassId) (c0 : Int32) (n0 : Nat) (hfb : Z.vm.findClass "[B" = some kB) (V1 : Arv Z h0 a1 kk1 .char (1 : Int32) [.int c0] (.int 0)) (Sa : sSa Z) (Sh : sSh Z) (Sl : sSl Z) (O0 : Old Z n0 h0) : Con l Z my4 bc17 5 (some (.array .byte)) [] (ro 2 1 2 26) 1 2 #[(.ref a1), (.int 0), (.int 1)] h0 (fun v h L => ∃ r, v = some (.ref r) ∧ Arv Z h r kB .byte (2 : Int32) [.int (oh c0), .int (ol c0)] (.int 0) ∧ Keep h0 h [] ∧ Fr n0 L ∧ n0 ≤ r ∧ h0.size ≤ r) := by
  refine Con.intro (plainFor_of_name pn_0) ?_
  intro p e s m below meth c s₁ X0 hx y hml hZ hown hnm hret hlk e0 hs0
  refine gs (fun _ k => castTop (ef_4 m a1 (0 : Int32) (1 : Int32)) k) ?_
  have K0 := Keep.refl h0 []
  show Gf p e below _ s₁ m 0 #[vr a1, vi 0, vi 1, vu, vu] []
  refine gs (fun _ k => XS.iloadN X0.here hx rfl (hb y d26_0) rfl k) ?_
  refine Gl.callS X0 hx hZ (y := my3) hown (w138 hw) (w139 hw) (w19 hw) (w140 hw) (desc_ne (by decide)) (rm := ro 1 1 2 13) (argsL := [(.int 1)]) (rest := []) (rmF1 hw kB n0 hfb O0) 0 (by decide) (by decide) (by decide) (by decide) e0 hml.symm pd_1 rfl rfl (Nat.le_of_eq rfl) (hb y d26_1) ?_
  intro v1 T1 L1 X1 hQ1
  obtain ⟨r1, rfl, Vq1, Kq1, Nq1, Gr1, H1⟩ := hQ1
  have N1 := Fr.app (Fr.nil n0) Nq1
  have ne_a1_r1 : a1 ≠ r1 := Nat.ne_of_lt (Nat.lt_of_lt_of_le V1.lt H1)
  have Jr1 : h0.size ≤ r1 := Nat.le_trans K0.1 H1
  have vc2 := V1.keep Kq1 (by simp)
  have O1 := O0.keep Kq1 all0
  have K1 := K0.trans Kq1 (by intro x hx'; exact nomatch hx')
  show Gf p e below _ T1 m 4 #[vr a1, vi 0, vi 1, vu, vu] [(.ref r1)]
  refine gs (fun _ k => XS.astoreN X1.here hx rfl (hb y d26_4) rfl rfl (l' := #[vr a1, vi 0, vi 1, vr r1, vu]) rfl (XS.iconst X1.here hx rfl (hb y d26_5) (XS.istore X1.here hx rfl (hb y d26_6) rfl (l' := #[vr a1, vi 0, vi 1, vr r1, vi 0]) rfl (XS.iload X1.here hx rfl (hb y d26_8) rfl (XS.iloadN X1.here hx rfl (hb y d26_10) rfl (XS.icmpNo X1.here hx rfl (hb y d26_11) rfl (tlt (by decide : (0 : Int32) < (1 : Int32))).2.1 k)))))) ?_
  show Gf p e below _ T1 m 14 #[vr a1, vi 0, vi 1, vr r1, vi 0] []
  refine gs (fun _ k => XS.aloadN X1.here hx rfl (hb y d26_14) rfl rfl (XS.iload X1.here hx rfl (hb y d26_15) rfl (XS.aloadN X1.here hx rfl (hb y d26_17) rfl rfl (XS.iloadN X1.here hx rfl (hb y d26_18) rfl k)))) ?_
  obtain ⟨zcl3, zAr3, zq3, zS3, zM3, zH3, zG3⟩ := id vc2
  refine gs (fun _ k => X1.caload hx (j := (0 : Int32)) (v := (.int c0)) (zAr3).1 (State.isArrayOf_alike hZ.alike (zAr3).2.1) (zAr3).2.2 (inb_of zS3 ⟨by decide, by decide⟩) (zH3 0 (by rw [zS3]; decide)) (g := (mkF m 19 #[vr a1, vi 0, vi 1, vr r1, vi 0] [(.int 0), (.ref a1), (.int 0), (.ref r1)])) rfl rfl (hb y d26_19) _ k) ?_
  show Gf p e below _ T1 m 20 #[vr a1, vi 0, vi 1, vr r1, vi 0] [(.int c0), (.int 0), (.ref r1)]
  refine Gl.callS X1 hx hZ (y := my1) hown (w145 hw) (w146 hw) (w19 hw) (w147 hw) (desc_ne (by decide)) (rm := ro 0 0 0 0) (argsL := [(.ref r1), (.int 0), (.int c0)]) (rest := []) (rmP20 hw r1 kB (0 : Int32) (0 : Int32) c0 n0 Vq1 Gr1 Sa Sh Sl O1) 0 (by decide) (by decide) (by decide) (by decide) rfl hml.symm pd_2 rfl rfl (Nat.le_of_eq rfl) (hb y d26_20) ?_
  intro v4 T4 L4 X4 hQ4
  obtain ⟨rfl, Nq4, Kq4, Vq4⟩ := hQ4
  have N4 := Fr.app N1 Nq4
  have vc5 := vc2.keep Kq4 (fun q => ne_a1_r1 (List.mem_singleton.mp q))
  have O4 := O1.keep Kq4 (allS Gr1 all0)
  have K4 := K1.trans Kq4 (by intro x hx'; cases List.mem_singleton.mp hx'; exact Or.inr Jr1)
  show Gf p e below _ T4 m 23 #[vr a1, vi 0, vi 1, vr r1, vi 0] []
  refine gs (fun _ k => XS.iinc X4.here hx rfl (hb y d26_23) rfl (l' := #[vr a1, vi 1, vi 1, vr r1, vi 0]) rfl (XS.iinc X4.here hx rfl (hb y d26_26) rfl (l' := #[vr a1, vi 1, vi 1, vr r1, vi 1]) rfl (XS.goto X4.here hx rfl (pc0 := 29) (pc' := 8) rfl (hb y d26_29) (by decide) (by decide) (XS.iload X4.here hx rfl (hb y d26_8) rfl (XS.iloadN X4.here hx rfl (hb y d26_10) rfl (XS.icmpYes X4.here hx rfl (pc0 := 11) (pc' := 32) rfl (hb y d26_11) rfl (flt (by decide : ¬ ((1 : Int32) < (1 : Int32)))).2.1 (by decide) (by decide) k)))))) ?_
  show Gf p e below _ T4 m 32 #[vr a1, vi 1, vi 1, vr r1, vi 1] []
  refine gs (fun _ k => XS.aloadN X4.here hx rfl (hb y d26_32) rfl rfl k) ?_
  exact Gl.retR X4 hx hlk hret rfl rfl (hb y d26_33) rfl (⟨_, rfl, Vq4, K4, N4, Gr1, Jr1⟩) (by decide) (by decide)
theorem ef_5 (m : MethodId) (x0 : Addr) (x1 : Int32) : entryFrame m #[(.ref x0), (.int x1)] 2 = mkF m 0 #[vr x0, vi x1] [] := by first | (simp [entryFrame, mkF, argsToLocals, Value.category, maxLocals]; done) | rfl
theorem d30_0 : decode bc26 0 = .ok (.getstatic 44, 3) := by decide +kernel
theorem d30_3 : decode bc26 3 = .ok (.ifCond .ne 25, 3) := by decide +kernel
theorem d30_28 : decode bc26 28 = .ok (.iload_n 1, 1) := by decide +kernel
theorem d30_29 : decode bc26 29 = .ok (.iconst 1, 1) := by decide +kernel
theorem d30_30 : decode bc26 30 = .ok (.ishl, 1) := by decide +kernel
theorem d30_31 : decode bc26 31 = .ok (.istore_n 1, 1) := by decide +kernel
theorem d30_32 : decode bc26 32 = .ok (.aload_n 0, 1) := by decide +kernel
theorem d30_33 : decode bc26 33 = .ok (.iload_n 1, 1) := by decide +kernel
theorem d30_34 : decode bc26 34 = .ok (.iinc 1 1, 3) := by decide +kernel
theorem d30_37 : decode bc26 37 = .ok (.baload, 1) := by decide +kernel
theorem d30_38 : decode bc26 38 = .ok (.sipush 255, 3) := by decide +kernel
theorem d30_41 : decode bc26 41 = .ok (.iand, 1) := by decide +kernel
theorem d30_42 : decode bc26 42 = .ok (.getstatic 59, 3) := by decide +kernel
theorem d30_45 : decode bc26 45 = .ok (.ishl, 1) := by decide +kernel
theorem d30_46 : decode bc26 46 = .ok (.aload_n 0, 1) := by decide +kernel
theorem d30_47 : decode bc26 47 = .ok (.iload_n 1, 1) := by decide +kernel
theorem d30_48 : decode bc26 48 = .ok (.baload, 1) := by decide +kernel
theorem d30_49 : decode bc26 49 = .ok (.sipush 255, 3) := by decide +kernel
theorem d30_52 : decode bc26 52 = .ok (.iand, 1) := by decide +kernel
theorem d30_53 : decode bc26 53 = .ok (.getstatic 63, 3) := by decide +kernel
theorem d30_56 : decode bc26 56 = .ok (.ishl, 1) := by decide +kernel
theorem d30_57 : decode bc26 57 = .ok (.ior, 1) := by decide +kernel
theorem d30_58 : decode bc26 58 = .ok (.i2c, 1) := by decide +kernel
theorem d30_59 : decode bc26 59 = .ok (.ireturn, 1) := by decide +kernel
theorem rmG10 {l : Launch} {Z : State} {a0 : Array Value} (hw : HW Z a0) {h0 : Heap} (a1 : Addr) (kB : ClassId) (c0 : Int32) (n0 : Nat) (V1 : Arv Z h0 a1 kB .byte (2 : Int32) [.int (oh c0), .int (ol c0)] (.int 0)) (hr : rg c0) (Sa : sSa Z) (Sh : sSh Z) (Sl : sSl Z) (O0 : Old Z n0 h0) : Con l Z my5 bc26 2 (some .char) [] (ro 0 0 0 0) 0 0 #[(.ref a1), (.int 0)] h0 (Pur (fun v => v = some (.int c0)) h0) := by
  refine Con.intro (plainFor_of_name pn_0) ?_
  intro p e s m below meth c s₁ X0 hx y hml hZ hown hnm hret hlk e0 hs0
  refine gs (fun _ k => castTop (ef_5 m a1 (0 : Int32)) k) ?_
  show Gf p e below _ s₁ m 0 #[vr a1, vi 0] []
  obtain ⟨T1, X1, e1, st1⟩ := getS2 X0 hx hZ hown (host := "") (Or.inl (w148 hw)) Via.refl e0 (Sa.ext O0.2) (g := (mkF m 0 #[vr a1, vi 0] [])) rfl (hb y d30_0)
  refine Gl.of st1 ?_
  show Gf p e below _ T1 m 3 #[vr a1, vi 0] [(.int 1)]
  refine gs (fun _ k => XS.ifYes X1.here hx rfl (pc0 := 3) (pc' := 28) rfl (hb y d30_3) rfl ((if0 _ _).trans (feq (by decide : ¬ ((1 : Int32) = (0 : Int32)))).2) (by decide) (by decide) (XS.iloadN X1.here hx rfl (hb y d30_28) rfl (XS.iconst X1.here hx rfl (hb y d30_29) (XS.ishl X1.here hx rfl (hb y d30_30) rfl k)))) ?_
  show Gf p e below _ T1 m 31 #[vr a1, vi 0] [(.int 0)]
  refine gs (fun _ k => XS.istoreN X1.here hx rfl (hb y d30_31) rfl (l' := #[vr a1, vi 0]) rfl (XS.aloadN X1.here hx rfl (hb y d30_32) rfl rfl (XS.iloadN X1.here hx rfl (hb y d30_33) rfl (XS.iinc X1.here hx rfl (hb y d30_34) rfl (l' := #[vr a1, vi 1]) rfl k)))) ?_
  obtain ⟨zcl2, zAr2, zq2, zS2, zM2, zH2, zG2⟩ := id V1
  refine gs (fun _ k => X1.baloadBytes hx (j := (0 : Int32)) (v := (.int (oh c0))) (by rw [e1]; exact (zAr2).1) (State.isArrayOf_alike hZ.alike (zAr2).2.1) (zAr2).2.2 (inb_of zS2 ⟨by decide, by decide⟩) (zH2 0 (by rw [zS2]; decide)) (g := (mkF m 37 #[vr a1, vi 1] [(.int 0), (.ref a1)])) rfl rfl (hb y d30_37) _ k) ?_
  show Gf p e below _ T1 m 38 #[vr a1, vi 1] [(.int (oh c0))]
  refine gs (fun _ k => XS.sipush X1.here hx rfl (hb y d30_38) (XS.iand X1.here hx rfl (hb y d30_41) rfl k)) ?_
  obtain ⟨T3, X3, e3, st3⟩ := getS2 X1 hx hZ hown (host := "") (Or.inl (w149 hw)) Via.refl e1 (Sh.ext O0.2) (g := (mkF m 42 #[vr a1, vi 1] [(.int ((oh c0) &&& (255 : Int32)))])) rfl (hb y d30_42)
  refine Gl.of st3 ?_
  show Gf p e below _ T3 m 45 #[vr a1, vi 1] [(.int 0), (.int ((oh c0) &&& (255 : Int32)))]
  refine gs (fun _ k => XS.ishl X3.here hx rfl (hb y d30_45) rfl (XS.aloadN X3.here hx rfl (hb y d30_46) rfl rfl (XS.iloadN X3.here hx rfl (hb y d30_47) rfl k))) ?_
  obtain ⟨zcl4, zAr4, zq4, zS4, zM4, zH4, zG4⟩ := id V1
  refine gs (fun _ k => X3.baloadBytes hx (j := (1 : Int32)) (v := (.int (ol c0))) (by rw [e3]; exact (zAr4).1) (State.isArrayOf_alike hZ.alike (zAr4).2.1) (zAr4).2.2 (inb_of zS4 ⟨by decide, by decide⟩) (zH4 1 (by rw [zS4]; decide)) (g := (mkF m 48 #[vr a1, vi 1] [(.int 1), (.ref a1), (.int (((oh c0) &&& (255 : Int32)) <<< ((0 : Int32) &&& 31)))])) rfl rfl (hb y d30_48) _ k) ?_
  show Gf p e below _ T3 m 49 #[vr a1, vi 1] [(.int (ol c0)), (.int (((oh c0) &&& (255 : Int32)) <<< ((0 : Int32) &&& 31)))]
  refine gs (fun _ k => XS.sipush X3.here hx rfl (hb y d30_49) (XS.iand X3.here hx rfl (hb y d30_52) rfl k)) ?_
  obtain ⟨T5, X5, e5, st5⟩ := getS2 X3 hx hZ hown (host := "") (Or.inl (w150 hw)) Via.refl e3 (Sl.ext O0.2) (g := (mkF m 53 #[vr a1, vi 1] [(.int ((ol c0) &&& (255 : Int32))), (.int (((oh c0) &&& (255 : Int32)) <<< ((0 : Int32) &&& 31)))])) rfl (hb y d30_53)
  refine Gl.of st5 ?_
  show Gf p e below _ T5 m 56 #[vr a1, vi 1] [(.int 8), (.int ((ol c0) &&& (255 : Int32))), (.int (((oh c0) &&& (255 : Int32)) <<< ((0 : Int32) &&& 31)))]
  refine gs (fun _ k => XS.ishl X5.here hx rfl (hb y d30_56) rfl (XS.ior X5.here hx rfl (hb y d30_57) rfl (XS.i2c X5.here hx rfl (hb y d30_58) rfl k))) ?_
  exact Gl.retN X5 hx hlk hret (by simp) (hb y d30_59) e5 (⟨congrArg (fun z => some (Value.int z)) (own_gch hr), rfl, rfl⟩) (by decide) (by decide)
theorem ef_6 (m : MethodId) (x0 : Addr) (x1 : Int32) (x2 : Addr) (x3 : Int32) (x4 : Int32) : entryFrame m #[(.ref x0), (.int x1), (.ref x2), (.int x3), (.int x4)] 7 = mkF m 0 #[vr x0, vi x1, vr x2, vi x3, vi x4, vu, vu] [] := by first | (simp [entryFrame, mkF, argsToLocals, Value.category, maxLocals]; done) | rfl
theorem d5_0 : decode bc21 0 = .ok (.iconst 0, 1) := by decide +kernel
theorem d5_1 : decode bc21 1 = .ok (.istore 5, 2) := by decide +kernel
theorem d5_3 : decode bc21 3 = .ok (.iload 5, 2) := by decide +kernel
theorem d5_5 : decode bc21 5 = .ok (.iload 4, 2) := by decide +kernel
theorem d5_7 : decode bc21 7 = .ok (.if_icmp .ge 37, 3) := by decide +kernel
theorem d5_10 : decode bc21 10 = .ok (.aload_n 0, 1) := by decide +kernel
theorem d5_11 : decode bc21 11 = .ok (.iload_n 1, 1) := by decide +kernel
theorem d5_12 : decode bc21 12 = .ok (.caload, 1) := by decide +kernel
theorem d5_13 : decode bc21 13 = .ok (.istore 6, 2) := by decide +kernel
theorem d5_15 : decode bc21 15 = .ok (.iload 6, 2) := by decide +kernel
theorem d5_17 : decode bc21 17 = .ok (.sipush 255, 3) := by decide +kernel
theorem d5_20 : decode bc21 20 = .ok (.if_icmp .le 6, 3) := by decide +kernel
theorem d5_23 : decode bc21 23 = .ok (.iload 5, 2) := by decide +kernel
theorem d5_25 : decode bc21 25 = .ok (.ireturn, 1) := by decide +kernel
theorem d5_26 : decode bc21 26 = .ok (.aload_n 2, 1) := by decide +kernel
theorem d5_27 : decode bc21 27 = .ok (.iload_n 3, 1) := by decide +kernel
theorem d5_28 : decode bc21 28 = .ok (.iload 6, 2) := by decide +kernel
theorem d5_30 : decode bc21 30 = .ok (.i2b, 1) := by decide +kernel
theorem d5_31 : decode bc21 31 = .ok (.bastore, 1) := by decide +kernel
theorem d5_32 : decode bc21 32 = .ok (.iinc 1 1, 3) := by decide +kernel
theorem d5_35 : decode bc21 35 = .ok (.iinc 3 1, 3) := by decide +kernel
theorem d5_38 : decode bc21 38 = .ok (.iinc 5 1, 3) := by decide +kernel
theorem d5_41 : decode bc21 41 = .ok (.goto (-38), 3) := by decide +kernel
theorem d5_44 : decode bc21 44 = .ok (.iload 4, 2) := by decide +kernel
theorem d5_46 : decode bc21 46 = .ok (.ireturn, 1) := by decide +kernel
theorem rmK1 {l : Launch} {Z : State} {a0 : Array Value} (hw : HW Z a0) {h0 : Heap} (a1 a2 : Addr) (kk1 kB : ClassId) (c0 : Int32) (n0 : Nat) (V1 : Arv Z h0 a1 kk1 .char (1 : Int32) [.int c0] (.int 0)) (V2 : Arv Z h0 a2 kB .byte (1 : Int32) [.int (0 : Int32)] (.int 0)) (hne : ¬ a1 = a2) (Ga2 : n0 ≤ a2) (O0 : Old Z n0 h0) : Con l Z my6 bc21 7 (some .int) [] (ro 0 0 0 0) 0 0 #[(.ref a1), (.int 0), (.ref a2), (.int 0), (.int 1)] h0 (fun v h L => ∃ r vs, v = some (.int r) ∧ Fr n0 L ∧ Keep h0 h [a2] ∧ Arv Z h a2 kB .byte (1 : Int32) vs (.int 0) ∧ ((r = (1 : Int32) ∧ vs = [.int (o8 c0)] ∧ (¬ (255 : Int32) < c0)) ∨ (r = (0 : Int32) ∧ (255 : Int32) < c0))) := by
  refine Con.intro (plainFor_of_name pn_0) ?_
  intro p e s m below meth c s₁ X0 hx y hml hZ hown hnm hret hlk e0 hs0
  refine gs (fun _ k => castTop (ef_6 m a1 (0 : Int32) a2 (0 : Int32) (1 : Int32)) k) ?_
  have K0 := Keep.refl h0 [a2]
  show Gf p e below _ s₁ m 0 #[vr a1, vi 0, vr a2, vi 0, vi 1, vu, vu] []
  refine gs (fun _ k => XS.iconst X0.here hx rfl (hb y d5_0) (XS.istore X0.here hx rfl (hb y d5_1) rfl (l' := #[vr a1, vi 0, vr a2, vi 0, vi 1, vi 0, vu]) rfl (XS.iload X0.here hx rfl (hb y d5_3) rfl (XS.iload X0.here hx rfl (hb y d5_5) rfl (XS.icmpNo X0.here hx rfl (hb y d5_7) rfl (tlt (by decide : (0 : Int32) < (1 : Int32))).2.1 (XS.aloadN X0.here hx rfl (hb y d5_10) rfl rfl k)))))) ?_
  show Gf p e below _ s₁ m 11 #[vr a1, vi 0, vr a2, vi 0, vi 1, vi 0, vu] [(.ref a1)]
  refine gs (fun _ k => XS.iloadN X0.here hx rfl (hb y d5_11) rfl k) ?_
  obtain ⟨zcl1, zAr1, zq1, zS1, zM1, zH1, zG1⟩ := id V1
  refine gs (fun _ k => X0.caload hx (j := (0 : Int32)) (v := (.int c0)) (by rw [e0]; exact (zAr1).1) (State.isArrayOf_alike hZ.alike (zAr1).2.1) (zAr1).2.2 (inb_of zS1 ⟨by decide, by decide⟩) (zH1 0 (by rw [zS1]; decide)) (g := (mkF m 12 #[vr a1, vi 0, vr a2, vi 0, vi 1, vi 0, vu] [(.int 0), (.ref a1)])) rfl rfl (hb y d5_12) _ k) ?_
  show Gf p e below _ s₁ m 13 #[vr a1, vi 0, vr a2, vi 0, vi 1, vi 0, vu] [(.int c0)]
  refine gs (fun _ k => XS.istore X0.here hx rfl (hb y d5_13) rfl (l' := #[vr a1, vi 0, vr a2, vi 0, vi 1, vi 0, vi c0]) rfl (XS.iload X0.here hx rfl (hb y d5_15) rfl (XS.sipush X0.here hx rfl (hb y d5_17) k))) ?_
  by_cases hc20_2 : (255 : Int32) < c0
  · refine Gl.of (fun _ kq_ => XS.icmpNo X0.here hx rfl (hb y d5_20) rfl (tlt hc20_2).2.2.2 kq_) ?_
    refine gs (fun _ k => XS.iload X0.here hx rfl (hb y d5_23) rfl k) ?_
    exact Gl.retI X0 hx hlk hret (hb y d5_25) e0 (⟨_, _, rfl, (Fr.nil n0), K0, V2, Or.inr (⟨rfl, hc20_2⟩)⟩) (by decide) (by decide)
  · refine Gl.of (fun _ kq_ => XS.icmpYes X0.here hx rfl (pc0 := 20) (pc' := 26) rfl (hb y d5_20) rfl (flt hc20_2).2.2.2 (by decide) (by decide) kq_) ?_
    refine gs (fun _ k => XS.aloadN X0.here hx rfl (hb y d5_26) rfl rfl (XS.iloadN X0.here hx rfl (hb y d5_27) rfl k)) ?_
    show Gf p e below _ s₁ m 28 #[vr a1, vi 0, vr a2, vi 0, vi 1, vi 0, vi c0] [(.int 0), (.ref a2)]
    refine gs (fun _ k => XS.iload X0.here hx rfl (hb y d5_28) rfl (XS.i2b X0.here hx rfl (hb y d5_30) rfl k)) ?_
    obtain ⟨zcl3, zAr3, zq3, zS3, zM3, zH3, zG3⟩ := id V2
    obtain ⟨T4, h4, X4, e4, W4, st4⟩ := stB X0 hx hZ e0 zAr3 (j := (0 : Int32)) (inb_of zS3 ⟨by decide, by decide⟩) (g := (mkF m 31 #[vr a1, vi 0, vr a2, vi 0, vi 1, vi 0, vi c0] [(.int (c0.toInt8.toInt32)), (.int 0), (.ref a2)])) rfl rfl (hb y d5_31)
    refine Gl.of st4 ?_
    have V4 : Arv Z h4 a2 kB .byte (1 : Int32) [(.int (nar .byte (c0.toInt8.toInt32)))] (.int 0) := Arv.set zAr3 zq3 zS3 zM3 zH3 zG3 (fits_nar_byte _) W4 0 rfl (Nat.le_of_ble_eq_true rfl)
    have vc5 := V1.other W4 hne
    have N4 := Fr.snoc X4 (Fr.nil n0) Ga2
    have O4 := O0.wr W4 Ga2
    have K4 := K0.wr W4 (Or.inl (List.mem_of_getElem? (i := 0) rfl))
    show Gf p e below _ T4 m 32 #[vr a1, vi 0, vr a2, vi 0, vi 1, vi 0, vi c0] []
    refine gs (fun _ k => XS.iinc X4.here hx rfl (hb y d5_32) rfl (l' := #[vr a1, vi 1, vr a2, vi 0, vi 1, vi 0, vi c0]) rfl (XS.iinc X4.here hx rfl (hb y d5_35) rfl (l' := #[vr a1, vi 1, vr a2, vi 1, vi 1, vi 0, vi c0]) rfl (XS.iinc X4.here hx rfl (hb y d5_38) rfl (l' := #[vr a1, vi 1, vr a2, vi 1, vi 1, vi 1, vi c0]) rfl (XS.goto X4.here hx rfl (pc0 := 41) (pc' := 3) rfl (hb y d5_41) (by decide) (by decide) (XS.iload X4.here hx rfl (hb y d5_3) rfl (XS.iload X4.here hx rfl (hb y d5_5) rfl k)))))) ?_
    show Gf p e below _ T4 m 7 #[vr a1, vi 1, vr a2, vi 1, vi 1, vi 1, vi c0] [(.int 1), (.int 1)]
    refine gs (fun _ k => XS.icmpYes X4.here hx rfl (pc0 := 7) (pc' := 44) rfl (hb y d5_7) rfl (flt (by decide : ¬ ((1 : Int32) < (1 : Int32)))).2.1 (by decide) (by decide) (XS.iload X4.here hx rfl (hb y d5_44) rfl k)) ?_
    exact Gl.retI X4 hx hlk hret (hb y d5_46) e4 (⟨_, _, rfl, N4, K4, V4, Or.inl ⟨rfl, rfl, hc20_2⟩⟩) (by decide) (by decide)
theorem ef_7 (m : MethodId) (x0 : Addr) (x1 : Int32) (x2 : Int32) : entryFrame m #[(.ref x0), (.int x1), (.int x2)] 6 = mkF m 0 #[vr x0, vi x1, vi x2, vu, vu, vu] [] := by first | (simp [entryFrame, mkF, argsToLocals, Value.category, maxLocals]; done) | rfl
theorem d4_0 : decode bc19 0 = .ok (.iload_n 2, 1) := by decide +kernel
theorem d4_1 : decode bc19 1 = .ok (.newarray .byte, 2) := by decide +kernel
theorem d4_3 : decode bc19 3 = .ok (.astore_n 3, 1) := by decide +kernel
theorem d4_4 : decode bc19 4 = .ok (.aload_n 0, 1) := by decide +kernel
theorem d4_5 : decode bc19 5 = .ok (.iload_n 1, 1) := by decide +kernel
theorem d4_6 : decode bc19 6 = .ok (.aload_n 3, 1) := by decide +kernel
theorem d4_7 : decode bc19 7 = .ok (.iconst 0, 1) := by decide +kernel
theorem d4_8 : decode bc19 8 = .ok (.iload_n 2, 1) := by decide +kernel
theorem d4_9 : decode bc19 9 = .ok (.invokestatic 115, 3) := by decide +kernel
theorem pd_3 : parseMethodDescriptor "([CI[BII)I" = some ⟨[(.array .char), .int, (.array .byte), .int, .int], some .int⟩ := by decide +kernel
theorem w22 (hw : HW Z a0) : (Jvm.Cond.methodLink "java/lang/StringUTF16" (115 : Nat) ⟨"java/lang/StringUTF16", "compress", "([CI[BII)I"⟩).before a0 Z = true := hw _ (wm 22 rfl)
theorem w23 (hw : HW Z a0) : (Jvm.Cond.static ⟨"java/lang/StringUTF16", "compress", "([CI[BII)I"⟩).before a0 Z = true := hw _ (wm 23 rfl)
theorem w24 (hw : HW Z a0) : (Jvm.Cond.code ⟨"java/lang/StringUTF16", "compress", "([CI[BII)I"⟩ bc21 (7 : Nat) (Option.some Jvm.ClassFile.FieldType.int)).before a0 Z = true := hw _ (wm 24 rfl)
theorem d4_12 : decode bc19 12 = .ok (.istore 4, 2) := by decide +kernel
theorem d4_14 : decode bc19 14 = .ok (.iload 4, 2) := by decide +kernel
theorem d4_16 : decode bc19 16 = .ok (.iload_n 2, 1) := by decide +kernel
theorem d4_17 : decode bc19 17 = .ok (.if_icmp .eq 40, 3) := by decide +kernel
theorem d4_57 : decode bc19 57 = .ok (.aload_n 3, 1) := by decide +kernel
theorem d4_58 : decode bc19 58 = .ok (.areturn, 1) := by decide +kernel
theorem d4_20 : decode bc19 20 = .ok (.aload_n 0, 1) := by decide +kernel
theorem d4_21 : decode bc19 21 = .ok (.iload_n 1, 1) := by decide +kernel
theorem d4_22 : decode bc19 22 = .ok (.iload_n 2, 1) := by decide +kernel
theorem d4_23 : decode bc19 23 = .ok (.invokestatic 119, 3) := by decide +kernel
theorem pd_4 : parseMethodDescriptor "([CII)[B" = some ⟨[(.array .char), .int, .int], some (.array .byte)⟩ := by decide +kernel
theorem w135 (hw : HW Z a0) : (Jvm.Cond.methodLink "java/lang/StringUTF16" (119 : Nat) ⟨"java/lang/StringUTF16", "toBytes", "([CII)[B"⟩).before a0 Z = true := hw _ (wm 135 rfl)
theorem w136 (hw : HW Z a0) : (Jvm.Cond.static ⟨"java/lang/StringUTF16", "toBytes", "([CII)[B"⟩).before a0 Z = true := hw _ (wm 136 rfl)
theorem w137 (hw : HW Z a0) : (Jvm.Cond.code ⟨"java/lang/StringUTF16", "toBytes", "([CII)[B"⟩ bc17 (5 : Nat) (Option.some (Jvm.ClassFile.FieldType.array Jvm.ClassFile.FieldType.byte))).before a0 Z = true := hw _ (wm 137 rfl)
theorem d4_26 : decode bc19 26 = .ok (.astore 5, 2) := by decide +kernel
theorem d4_28 : decode bc19 28 = .ok (.aload 5, 2) := by decide +kernel
theorem d4_30 : decode bc19 30 = .ok (.iload 4, 2) := by decide +kernel
theorem d4_32 : decode bc19 32 = .ok (.invokestatic 71, 3) := by decide +kernel
theorem pd_5 : parseMethodDescriptor "([BI)C" = some ⟨[(.array .byte), .int], some .char⟩ := by decide +kernel
theorem w151 (hw : HW Z a0) : (Jvm.Cond.methodLink "java/lang/StringUTF16" (71 : Nat) ⟨"java/lang/StringUTF16", "getChar", "([BI)C"⟩).before a0 Z = true := hw _ (wm 151 rfl)
theorem w152 (hw : HW Z a0) : (Jvm.Cond.static ⟨"java/lang/StringUTF16", "getChar", "([BI)C"⟩).before a0 Z = true := hw _ (wm 152 rfl)
theorem w153 (hw : HW Z a0) : (Jvm.Cond.code ⟨"java/lang/StringUTF16", "getChar", "([BI)C"⟩ bc26 (2 : Nat) (Option.some Jvm.ClassFile.FieldType.char)).before a0 Z = true := hw _ (wm 153 rfl)
theorem d4_35 : decode bc19 35 = .ok (.sipush 255, 3) := by decide +kernel
theorem d4_38 : decode bc19 38 = .ok (.if_icmp .gt 16, 3) := by decide +kernel
theorem d4_54 : decode bc19 54 = .ok (.aload 5, 2) := by decide +kernel
theorem d4_56 : decode bc19 56 = .ok (.areturn, 1) := by decide +kernel
theorem rmC1 {l : Launch} {Z : State} {a0 : Array Value} (hw : HW Z a0) {h0 : Heap} (a1 : Addr) (kk1 kB : ClassId) (c0 : Int32) (n0 : Nat) (hfb : Z.vm.findClass "[B" = some kB) (V1 : Arv Z h0 a1 kk1 .char (1 : Int32) [.int c0] (.int 0)) (hr0 : rg c0) (Sa : sSa Z) (Sh : sSh Z) (Sl : sSl Z) (O0 : Old Z n0 h0) : Con l Z my7 bc19 6 (some (.array .byte)) [] (ro 3 2 3 45) 2 3 #[(.ref a1), (.int 0), (.int 1)] h0 (fun v h L => ∃ r, v = some (.ref r) ∧ ((Arv Z h r kB .byte (1 : Int32) [.int (o8 c0)] (.int 0) ∧ (¬ (255 : Int32) < c0)) ∨ Arv Z h r kB .byte (2 : Int32) [.int (oh c0), .int (ol c0)] (.int 0)) ∧ Keep h0 h [] ∧ Fr n0 L ∧ n0 ≤ r ∧ h0.size ≤ r) := by
  refine Con.intro (plainFor_of_name pn_0) ?_
  intro p e s m below meth c s₁ X0 hx y hml hZ hown hnm hret hlk e0 hs0
  refine gs (fun _ k => castTop (ef_7 m a1 (0 : Int32) (1 : Int32)) k) ?_
  have K0 := Keep.refl h0 []
  show Gf p e below _ s₁ m 0 #[vr a1, vi 0, vi 1, vu, vu, vu] []
  refine gs (fun _ k => XS.iloadN X0.here hx rfl (hb y d4_0) rfl k) ?_
  obtain ⟨T1, h1, k1, X1, e1, E1, A1, Ex1, st1⟩ := newPE (aty := .byte) X0 hx hZ (w21 hw) e0 (g := (mkF m 1 #[vr a1, vi 0, vi 1, vu, vu, vu] [(.int 1)])) rfl (hb y d4_1) rfl (by decide) (cap := 1) (by decide) (by decide) (by decide) (by decide) (ad := "[B") rfl
  have kq1 := own_fbn A1 Ex1 hfb
  rw [kq1] at A1
  obtain ⟨b1, g1⟩ : ∃ z, z = h0.size := ⟨_, rfl⟩
  rw [← g1] at A1 st1
  refine Gl.of st1 ?_
  have Gb1 : n0 ≤ b1 := Nat.le_trans (O0.1 ▸ O0.2.1) (Nat.le_of_eq g1.symm)
  have Jb1 : h0.size ≤ b1 := Nat.le_trans K0.1 (Nat.le_of_eq g1.symm)
  have ne_a1_b1 : a1 ≠ b1 := Nat.ne_of_lt (Nat.lt_of_lt_of_le V1.lt (Nat.le_of_eq g1.symm))
  have vc2 := V1.ext E1
  have O1 := O0.ext E1
  have K1 := K0.ext E1
  have V1 : Arv Z h1 b1 kB .byte (1 : Int32) [(.int 0)] (.int 0) := (Arv.new A1 (by decide)).pad (pad_rep [] (.int 0) 1)
  show Gf p e below _ T1 m 3 #[vr a1, vi 0, vi 1, vu, vu, vu] [(.ref b1)]
  refine gs (fun _ k => XS.astoreN X1.here hx rfl (hb y d4_3) rfl rfl (l' := #[vr a1, vi 0, vi 1, vr b1, vu, vu]) rfl (XS.aloadN X1.here hx rfl (hb y d4_4) rfl rfl (XS.iloadN X1.here hx rfl (hb y d4_5) rfl (XS.aloadN X1.here hx rfl (hb y d4_6) rfl rfl (XS.iconst X1.here hx rfl (hb y d4_7) (XS.iloadN X1.here hx rfl (hb y d4_8) rfl k)))))) ?_
  show Gf p e below _ T1 m 9 #[vr a1, vi 0, vi 1, vr b1, vu, vu] [(.int 1), (.int 0), (.ref b1), (.int 0), (.ref a1)]
  refine Gl.callS X1 hx hZ (y := my6) hown (w22 hw) (w23 hw) (w19 hw) (w24 hw) (desc_ne (by decide)) (rm := ro 0 0 0 0) (argsL := [(.ref a1), (.int 0), (.ref b1), (.int 0), (.int 1)]) (rest := []) (rmK1 hw a1 b1 kk1 kB c0 n0 vc2 V1 ne_a1_b1 Gb1 O1) 0 (by decide) (by decide) (by decide) (by decide) e1 hml.symm pd_3 rfl rfl (Nat.le_of_eq rfl) (hb y d4_9) ?_
  intro v3 T3 L3 X3 hQ3
  obtain ⟨z3, vs3, rfl, Nq3, Kq3, Vq3, dj3⟩ := hQ3
  have N3 := Fr.app (Fr.nil n0) Nq3
  have vc4 := vc2.keep Kq3 (fun q => ne_a1_b1 (List.mem_singleton.mp q))
  have O3 := O1.keep Kq3 (allS Gb1 all0)
  have K3 := K1.trans Kq3 (by intro x hx'; cases List.mem_singleton.mp hx'; exact Or.inr Jb1)
  rcases dj3 with ⟨rfl, rfl, le3⟩ | ⟨rfl, hb3⟩
  · show Gf p e below _ T3 m 12 #[vr a1, vi 0, vi 1, vr b1, vu, vu] [(.int 1)]
    refine gs (fun _ k => XS.istore X3.here hx rfl (hb y d4_12) rfl (l' := #[vr a1, vi 0, vi 1, vr b1, vi 1, vu]) rfl (XS.iload X3.here hx rfl (hb y d4_14) rfl (XS.iloadN X3.here hx rfl (hb y d4_16) rfl (XS.icmpYes X3.here hx rfl (pc0 := 17) (pc' := 57) rfl (hb y d4_17) rfl (teq (by decide : (1 : Int32) = (1 : Int32))).1 (by decide) (by decide) (XS.aloadN X3.here hx rfl (hb y d4_57) rfl rfl k))))) ?_
    exact Gl.retR X3 hx hlk hret rfl rfl (hb y d4_58) rfl (⟨_, rfl, Or.inl ⟨Vq3, le3⟩, K3, N3, Gb1, Jb1⟩) (by decide) (by decide)
  · show Gf p e below _ T3 m 12 #[vr a1, vi 0, vi 1, vr b1, vu, vu] [(.int 0)]
    refine gs (fun _ k => XS.istore X3.here hx rfl (hb y d4_12) rfl (l' := #[vr a1, vi 0, vi 1, vr b1, vi 0, vu]) rfl (XS.iload X3.here hx rfl (hb y d4_14) rfl (XS.iloadN X3.here hx rfl (hb y d4_16) rfl (XS.icmpNo X3.here hx rfl (hb y d4_17) rfl (feq (by decide : ¬ ((0 : Int32) = (1 : Int32)))).1 (XS.aloadN X3.here hx rfl (hb y d4_20) rfl rfl (XS.iloadN X3.here hx rfl (hb y d4_21) rfl k)))))) ?_
    show Gf p e below _ T3 m 22 #[vr a1, vi 0, vi 1, vr b1, vi 0, vu] [(.int 0), (.ref a1)]
    refine gs (fun _ k => XS.iloadN X3.here hx rfl (hb y d4_22) rfl k) ?_
    refine Gl.callS X3 hx hZ (y := my4) hown (w135 hw) (w136 hw) (w19 hw) (w137 hw) (desc_ne (by decide)) (rm := ro 2 1 2 26) (argsL := [(.ref a1), (.int 0), (.int 1)]) (rest := []) (rmB1 hw a1 kk1 kB c0 n0 hfb vc4 Sa Sh Sl O3) 0 (by decide) (by decide) (by decide) (by decide) rfl hml.symm pd_4 rfl rfl (Nat.le_of_eq rfl) (hb y d4_23) ?_
    intro v5 T5 L5 X5 hQ5
    obtain ⟨r5, rfl, Vq5, Kq5, Nq5, Gr5, H5⟩ := hQ5
    have N5 := Fr.app N3 Nq5
    have ne_a1_r5 : a1 ≠ r5 := Nat.ne_of_lt (Nat.lt_of_lt_of_le vc4.lt H5)
    have ne_b1_r5 : b1 ≠ r5 := Nat.ne_of_lt (Nat.lt_of_lt_of_le Vq3.lt H5)
    have Jr5 : h0.size ≤ r5 := Nat.le_trans K3.1 H5
    have vc6 := vc4.keep Kq5 (by simp)
    have vc7 := Vq3.keep Kq5 (by simp)
    have O5 := O3.keep Kq5 all0
    have K5 := K3.trans Kq5 (by intro x hx'; exact nomatch hx')
    show Gf p e below _ T5 m 26 #[vr a1, vi 0, vi 1, vr b1, vi 0, vu] [(.ref r5)]
    refine gs (fun _ k => XS.astore X5.here hx rfl (hb y d4_26) rfl rfl (l' := #[vr a1, vi 0, vi 1, vr b1, vi 0, vr r5]) rfl (XS.aload X5.here hx rfl (hb y d4_28) rfl rfl (XS.iload X5.here hx rfl (hb y d4_30) rfl k))) ?_
    refine Gl.callS0 X5 hx hZ (y := my5) hown (w151 hw) (w152 hw) (w19 hw) (w153 hw) (desc_ne (by decide)) (argsL := [(.ref r5), (.int 0)]) (rest := []) (rmG10 hw r5 kB c0 n0 Vq5 hr0 Sa Sh Sl O5) 0 (by decide) (by decide) rfl hml.symm pd_5 rfl rfl (Nat.le_of_eq rfl) (hb y d4_32) (by decide) (by decide) ?_
    intro v8 T8 X8 e8 hv8
    subst hv8
    show Gf p e below _ T8 m 35 #[vr a1, vi 0, vi 1, vr b1, vi 0, vr r5] [(.int c0)]
    refine gs (fun _ k => XS.sipush X8.here hx rfl (hb y d4_35) (XS.icmpYes X8.here hx rfl (pc0 := 38) (pc' := 54) rfl (hb y d4_38) rfl (tlt hb3).2.2.1 (by decide) (by decide) (XS.aload X8.here hx rfl (hb y d4_54) rfl rfl k))) ?_
    exact Gl.retR X8 hx hlk hret rfl rfl (hb y d4_56) e8 (⟨_, rfl, Or.inr Vq5, K5, N5, Gr5, Jr5⟩) (by decide) (by decide)
theorem ef_8 (m : MethodId) (x0 : Addr) (x1 : Int32) : entryFrame m #[(.ref x0), (.int x1)] 2 = mkF m 0 #[vr x0, vi x1] [] := by first | (simp [entryFrame, mkF, argsToLocals, Value.category, maxLocals]; done) | rfl
theorem d6_0 : decode bc18 0 = .ok (.iload_n 1, 1) := by decide +kernel
theorem d6_1 : decode bc18 1 = .ok (.aload_n 0, 1) := by decide +kernel
theorem d6_2 : decode bc18 2 = .ok (.arraylength, 1) := by decide +kernel
theorem d6_3 : decode bc18 3 = .ok (.isub, 1) := by decide +kernel
theorem d6_4 : decode bc18 4 = .ok (.bipush 31, 2) := by decide +kernel
theorem d6_6 : decode bc18 6 = .ok (.iushr, 1) := by decide +kernel
theorem d6_7 : decode bc18 7 = .ok (.i2b, 1) := by decide +kernel
theorem d6_8 : decode bc18 8 = .ok (.ireturn, 1) := by decide +kernel
theorem rmZ10 {l : Launch} {Z : State} {a0 : Array Value} (hw : HW Z a0) {h0 : Heap} (a1 : Addr) (kB : ClassId) (vs : List Value) (V1 : Arv Z h0 a1 kB .byte (1 : Int32) vs (.int 0)) : Con l Z my8 bc18 2 (some .byte) [] (ro 0 0 0 0) 0 0 #[(.ref a1), (.int 1)] h0 (Pur (fun v => v = some (.int 0)) h0) := by
  refine Con.intro (plainFor_of_name pn_0) ?_
  intro p e s m below meth c s₁ X0 hx y hml hZ hown hnm hret hlk e0 hs0
  refine gs (fun _ k => castTop (ef_8 m a1 (1 : Int32)) k) ?_
  show Gf p e below _ s₁ m 0 #[vr a1, vi 1] []
  refine gs (fun _ k => XS.iloadN X0.here hx rfl (hb y d6_0) rfl (XS.aloadN X0.here hx rfl (hb y d6_1) rfl rfl k)) ?_
  obtain ⟨zcl1, zAr1, zq1, zS1, zM1, zH1, zG1⟩ := id V1
  refine gs (fun _ k => X0.arraylength hx (by rw [e0]; exact (zAr1).1) (State.isArrayOf_alike hZ.alike (zAr1).2.1) (g := (mkF m 2 #[vr a1, vi 1] [(.ref a1), (.int 1)])) rfl rfl (hb y d6_2) _ k) ?_
  rw [len_of zS1 (by decide)]
  show Gf p e below _ s₁ m 3 #[vr a1, vi 1] [(.int 1), (.int 1)]
  refine gs (fun _ k => XS.isub X0.here hx rfl (hb y d6_3) rfl k) ?_
  show Gf p e below _ s₁ m 4 #[vr a1, vi 1] [(.int 0)]
  refine gs (fun _ k => XS.bipush X0.here hx rfl (hb y d6_4) (XS.iushr X0.here hx rfl (hb y d6_6) rfl (XS.i2b X0.here hx rfl (hb y d6_7) rfl k))) ?_
  exact Gl.retN X0 hx hlk hret (by simp) (hb y d6_8) e0 (⟨rfl, rfl, rfl⟩) (by decide) (by decide)
theorem rmZ11 {l : Launch} {Z : State} {a0 : Array Value} (hw : HW Z a0) {h0 : Heap} (a1 : Addr) (kB : ClassId) (vs : List Value) (V1 : Arv Z h0 a1 kB .byte (2 : Int32) vs (.int 0)) : Con l Z my8 bc18 2 (some .byte) [] (ro 0 0 0 0) 0 0 #[(.ref a1), (.int 1)] h0 (Pur (fun v => v = some (.int 1)) h0) := by
  refine Con.intro (plainFor_of_name pn_0) ?_
  intro p e s m below meth c s₁ X0 hx y hml hZ hown hnm hret hlk e0 hs0
  refine gs (fun _ k => castTop (ef_8 m a1 (1 : Int32)) k) ?_
  show Gf p e below _ s₁ m 0 #[vr a1, vi 1] []
  refine gs (fun _ k => XS.iloadN X0.here hx rfl (hb y d6_0) rfl (XS.aloadN X0.here hx rfl (hb y d6_1) rfl rfl k)) ?_
  obtain ⟨zcl1, zAr1, zq1, zS1, zM1, zH1, zG1⟩ := id V1
  refine gs (fun _ k => X0.arraylength hx (by rw [e0]; exact (zAr1).1) (State.isArrayOf_alike hZ.alike (zAr1).2.1) (g := (mkF m 2 #[vr a1, vi 1] [(.ref a1), (.int 1)])) rfl rfl (hb y d6_2) _ k) ?_
  rw [len_of zS1 (by decide)]
  show Gf p e below _ s₁ m 3 #[vr a1, vi 1] [(.int 2), (.int 1)]
  refine gs (fun _ k => XS.isub X0.here hx rfl (hb y d6_3) rfl k) ?_
  show Gf p e below _ s₁ m 4 #[vr a1, vi 1] [(.int (-1 : Int32))]
  refine gs (fun _ k => XS.bipush X0.here hx rfl (hb y d6_4) (XS.iushr X0.here hx rfl (hb y d6_6) rfl (XS.i2b X0.here hx rfl (hb y d6_7) rfl k))) ?_
  exact Gl.retN X0 hx hlk hret (by simp) (hb y d6_8) e0 (⟨rfl, rfl, rfl⟩) (by decide) (by decide)
theorem ef_9 (m : MethodId) (x0 : Addr) (x1 : Addr) (x2 : Int32) (x3 : Int32)  : entryFrame m #[(.ref x0), (.ref x1), (.int x2), (.int x3), .null] 6 = mkF m 0 #[vr x0, vr x1, vi x2, vi x3, .val .null, vu] [] := by first | (simp [entryFrame, mkF, argsToLocals, Value.category, maxLocals]; done) | rfl
theorem pn_1 : plainName "java/lang/String" = true := by first | (simp [plainName, overriddenIn]; done) | decide +kernel
theorem d2_0 : decode bc4 0 = .ok (.aload_n 0, 1) := by decide +kernel
theorem d2_1 : decode bc4 1 = .ok (.invokespecial 1, 3) := by decide +kernel
theorem w13 (hw : HW Z a0) : (Jvm.Cond.methodLink "java/lang/String" (1 : Nat) ⟨"java/lang/Object", "<init>", "()V"⟩).before a0 Z = true := hw _ (wm 13 rfl)
theorem w14 (hw : HW Z a0) : (Jvm.Cond.instanceMethod ⟨"java/lang/Object", "<init>", "()V"⟩).before a0 Z = true := hw _ (wm 14 rfl)
theorem w15 (hw : HW Z a0) : (Jvm.Cond.code ⟨"java/lang/Object", "<init>", "()V"⟩ bc33 (1 : Nat) (Option.none : Option Jvm.ClassFile.FieldType)).before a0 Z = true := hw _ (wm 15 rfl)
theorem d2_4 : decode bc4 4 = .ok (.iload_n 3, 1) := by decide +kernel
theorem d2_5 : decode bc4 5 = .ok (.ifCond .ne 22, 3) := by decide +kernel
theorem d2_27 : decode bc4 27 = .ok (.getstatic 38, 3) := by decide +kernel
theorem w16 (hw : HW Z a0) : (Jvm.Cond.fieldLink "java/lang/String" (38 : Nat) "java/lang/String" "COMPACT_STRINGS" "Z").before a0 Z = true := hw _ (wm 16 rfl)
theorem d2_30 : decode bc4 30 = .ok (.ifCond .eq 28, 3) := by decide +kernel
theorem d2_33 : decode bc4 33 = .ok (.aload_n 1, 1) := by decide +kernel
theorem d2_34 : decode bc4 34 = .ok (.iload_n 2, 1) := by decide +kernel
theorem d2_35 : decode bc4 35 = .ok (.iload_n 3, 1) := by decide +kernel
theorem d2_36 : decode bc4 36 = .ok (.invokestatic 177, 3) := by decide +kernel
theorem w17 (hw : HW Z a0) : (Jvm.Cond.methodLink "java/lang/String" (177 : Nat) ⟨"java/lang/StringUTF16", "compress", "([CII)[B"⟩).before a0 Z = true := hw _ (wm 17 rfl)
theorem w18 (hw : HW Z a0) : (Jvm.Cond.static ⟨"java/lang/StringUTF16", "compress", "([CII)[B"⟩).before a0 Z = true := hw _ (wm 18 rfl)
theorem w20 (hw : HW Z a0) : (Jvm.Cond.code ⟨"java/lang/StringUTF16", "compress", "([CII)[B"⟩ bc19 (6 : Nat) (Option.some (Jvm.ClassFile.FieldType.array Jvm.ClassFile.FieldType.byte))).before a0 Z = true := hw _ (wm 20 rfl)
theorem d2_39 : decode bc4 39 = .ok (.astore 5, 2) := by decide +kernel
theorem d2_41 : decode bc4 41 = .ok (.aload_n 0, 1) := by decide +kernel
theorem d2_42 : decode bc4 42 = .ok (.aload 5, 2) := by decide +kernel
theorem d2_44 : decode bc4 44 = .ok (.iload_n 3, 1) := by decide +kernel
theorem d2_45 : decode bc4 45 = .ok (.invokestatic 47, 3) := by decide +kernel
theorem pd_6 : parseMethodDescriptor "([BI)B" = some ⟨[(.array .byte), .int], some .byte⟩ := by decide +kernel
theorem w25 (hw : HW Z a0) : (Jvm.Cond.methodLink "java/lang/String" (47 : Nat) ⟨"java/lang/StringUTF16", "coderFromArrayLen", "([BI)B"⟩).before a0 Z = true := hw _ (wm 25 rfl)
theorem w26 (hw : HW Z a0) : (Jvm.Cond.static ⟨"java/lang/StringUTF16", "coderFromArrayLen", "([BI)B"⟩).before a0 Z = true := hw _ (wm 26 rfl)
theorem w27 (hw : HW Z a0) : (Jvm.Cond.code ⟨"java/lang/StringUTF16", "coderFromArrayLen", "([BI)B"⟩ bc18 (2 : Nat) (Option.some Jvm.ClassFile.FieldType.byte)).before a0 Z = true := hw _ (wm 27 rfl)
theorem d2_48 : decode bc4 48 = .ok (.putfield 15, 3) := by decide +kernel
theorem w28 (hw : HW Z a0) : (Jvm.Cond.fieldLink "java/lang/String" (15 : Nat) "java/lang/String" "coder" "B").before a0 Z = true := hw _ (wm 28 rfl)
theorem w29 (hw : HW Z a0) : (Jvm.Cond.laysFinal "java/lang/String" "java/lang/String" "coder" "B").before a0 Z = true := hw _ (wm 29 rfl)
theorem w3 (hw : HW Z a0) : (Jvm.Cond.instantiable "java/lang/String" (4 : Nat)).before a0 Z = true := hw _ (wm 3 rfl)
theorem w31 (hw : HW Z a0) : (Jvm.Cond.laysFinal "java/lang/String" "java/lang/String" "value" "[B").before a0 Z = true := hw _ (wm 31 rfl)
theorem d2_51 : decode bc4 51 = .ok (.aload_n 0, 1) := by decide +kernel
theorem d2_52 : decode bc4 52 = .ok (.aload 5, 2) := by decide +kernel
theorem d2_54 : decode bc4 54 = .ok (.putfield 9, 3) := by decide +kernel
theorem w30 (hw : HW Z a0) : (Jvm.Cond.fieldLink "java/lang/String" (9 : Nat) "java/lang/String" "value" "[B").before a0 Z = true := hw _ (wm 30 rfl)
theorem d2_57 : decode bc4 57 = .ok (.return_, 1) := by decide +kernel
theorem rmI1 {l : Launch} {Z : State} {a0 : Array Value} (hw : HW Z a0) {h0 : Heap} (b1 a1 : Addr) (kk1 kB : ClassId) (c0 : Int32) (cz : Int32) (n0 : Nat) (hfb : Z.vm.findClass "[B" = some kB) (E1 : xS Z h0 b1) (Fv : Fld Z h0 b1 "java/lang/String" "value" "[B" .null) (Fc : fC Z h0 b1 0) (Gb1 : n0 ≤ b1) (V1 : Arv Z h0 a1 kk1 .char (1 : Int32) [.int c0] (.int 0)) (hab : ¬ a1 = b1) (hr0 : rg c0) (SC : sSC Z cz) (hcz : ¬ cz = 0) (Sa : sSa Z) (Sh : sSh Z) (Sl : sSl Z) (O0 : Old Z n0 h0) : Con l Z my9 bc4 6 none [] (ro 4 2 3 66) 2 3 #[(.ref b1), (.ref a1), (.int 0), (.int 1), .null] h0 (fun v h L => v = none ∧ Fr n0 L ∧ Keep h0 h [b1] ∧ ∃ t, fV Z h b1 t ∧ ((fC Z h b1 0 ∧ Arv Z h t kB .byte (1 : Int32) [.int (o8 c0)] (.int 0) ∧ (¬ (255 : Int32) < c0)) ∨ (fC Z h b1 1 ∧ Arv Z h t kB .byte (2 : Int32) [.int (oh c0), .int (ol c0)] (.int 0)))) := by
  refine Con.intro (plainFor_of_name pn_1) ?_
  intro p e s m below meth c s₁ X0 hx y hml hZ hown hnm hret hlk e0 hs0
  refine gs (fun _ k => castTop (ef_9 m b1 a1 (0 : Int32) (1 : Int32) ) k) ?_
  have K0 := Keep.refl h0 [b1]
  show Gf p e below _ s₁ m 0 #[vr b1, vr a1, vi 0, vi 1, .val .null, vu] []
  refine gs (fun _ k => XS.aloadN X0.here hx rfl (hb y d2_0) rfl rfl k) ?_
  obtain ⟨T1, X1, e1, st1⟩ := initO X0 hx hZ hown (w13 hw) (w14 hw) (w15 hw) e0 (g := (mkF m 1 #[vr b1, vr a1, vi 0, vi 1, .val .null, vu] [(.ref b1)])) rfl hml.symm rfl (hb y d2_1) (by decide) (W := 0) (by show 2 * 0 + _ ≤ _; exact Nat.le_of_eq rfl) (by decide)
  refine Gl.of st1 ?_
  show Gf p e below _ T1 m 4 #[vr b1, vr a1, vi 0, vi 1, .val .null, vu] []
  refine gs (fun _ k => XS.iloadN X1.here hx rfl (hb y d2_4) rfl (XS.ifYes X1.here hx rfl (pc0 := 5) (pc' := 27) rfl (hb y d2_5) rfl ((if0 _ _).trans (feq (by decide : ¬ ((1 : Int32) = (0 : Int32)))).2) (by decide) (by decide) k)) ?_
  obtain ⟨T2, X2, e2, st2⟩ := getS2 X1 hx hZ hown (host := "") (Or.inl (w16 hw)) Via.refl e1 (SC.ext O0.2) (g := (mkF m 27 #[vr b1, vr a1, vi 0, vi 1, .val .null, vu] [])) rfl (hb y d2_27)
  refine Gl.of st2 ?_
  show Gf p e below _ T2 m 30 #[vr b1, vr a1, vi 0, vi 1, .val .null, vu] [(.int cz)]
  refine gs (fun _ k => XS.ifNo X2.here hx rfl (hb y d2_30) rfl ((if0 _ _).trans (feq hcz).1) (XS.aloadN X2.here hx rfl (hb y d2_33) rfl rfl (XS.iloadN X2.here hx rfl (hb y d2_34) rfl (XS.iloadN X2.here hx rfl (hb y d2_35) rfl k)))) ?_
  refine Gl.callS X2 hx hZ (y := my7) hown (w17 hw) (w18 hw) (w19 hw) (w20 hw) (desc_ne (by decide)) (rm := ro 3 2 3 45) (argsL := [(.ref a1), (.int 0), (.int 1)]) (rest := []) (rmC1 hw a1 kk1 kB c0 n0 hfb V1 hr0 Sa Sh Sl O0) 0 (by decide) (by decide) (by decide) (by decide) e2 hml.symm pd_4 rfl rfl (Nat.le_of_eq rfl) (hb y d2_36) ?_
  intro v3 T3 L3 X3 hQ3
  obtain ⟨r3, rfl, dj3, Kq3, Nq3, Gr3, H3⟩ := hQ3
  have N3 := Fr.app (Fr.nil n0) Nq3
  have ne_a1_r3 : a1 ≠ r3 := Nat.ne_of_lt (Nat.lt_of_lt_of_le V1.lt H3)
  have ne_b1_r3 : b1 ≠ r3 := Nat.ne_of_lt (Nat.lt_of_lt_of_le E1.lt H3)
  have Jr3 : h0.size ≤ r3 := Nat.le_trans K0.1 H3
  have vc4 := V1.keep Kq3 (by simp)
  have ec5 := E1.keep Kq3
  have fc6 := Fv.keep Kq3 (by simp)
  have fc7 := Fc.keep Kq3 (by simp)
  have O3 := O0.keep Kq3 all0
  have K3 := K0.trans Kq3 (by intro x hx'; exact nomatch hx')
  rcases dj3 with ⟨Vq3, le3⟩ | Vq3
  · show Gf p e below _ T3 m 39 #[vr b1, vr a1, vi 0, vi 1, .val .null, vu] [(.ref r3)]
    refine gs (fun _ k => XS.astore X3.here hx rfl (hb y d2_39) rfl rfl (l' := #[vr b1, vr a1, vi 0, vi 1, .val .null, vr r3]) rfl (XS.aloadN X3.here hx rfl (hb y d2_41) rfl rfl (XS.aload X3.here hx rfl (hb y d2_42) rfl rfl (XS.iloadN X3.here hx rfl (hb y d2_44) rfl k)))) ?_
    refine Gl.callS0 X3 hx hZ (y := my8) hown (w25 hw) (w26 hw) (w19 hw) (w27 hw) (desc_ne (by decide)) (argsL := [(.ref r3), (.int 1)]) (rest := [(.ref b1)]) (rmZ10 hw r3 kB _ Vq3) 1 (by decide) (by decide) rfl hml.symm pd_6 rfl rfl (Nat.le_of_eq rfl) (hb y d2_45) (by decide) (by decide) ?_
    intro v8 T8 X8 e8 hv8
    subst hv8
    show Gf p e below _ T8 m 48 #[vr b1, vr a1, vi 0, vi 1, .val .null, vr r3] [(.int 0), (.ref b1)]
    obtain ⟨T9, h9, X9, e9, W9, st9⟩ := putFN X8 hx hZ hown (w28 hw) Via.refl e8 fc7 ec5 (Or.inr ⟨(w29 hw), rfl, hnm⟩) (w3 hw) (ty := .byte) (v' := (.int (nar .byte (0 : Int32)))) (by decide) rfl (fits_nar_byte _) (g := (mkF m 48 #[vr b1, vr a1, vi 0, vi 1, .val .null, vr r3] [(.int 0), (.ref b1)])) rfl rfl (hb y d2_48)
    refine Gl.of st9 ?_
    have F9 : Fld Z h9 b1 "java/lang/String" "coder" "B" (.int (nar .byte (0 : Int32))) := fc7.same W9
    have vc10 := vc4.other W9 hab
    have ec11 := ec5.wr W9
    have fc12 := fc6.other W9 (Or.inr (slot_ne (Or.inr (w31 hw)) (Or.inr (w29 hw)) (by decide) (t := (.array .byte)) (t' := .byte) (by decide) (by decide)))
    have vc13 := Vq3.other W9 ne_b1_r3.symm
    have N9 := Fr.snoc X9 N3 Gb1
    have O9 := O3.wr W9 Gb1
    have K9 := K3.wr W9 (Or.inl (List.mem_of_getElem? (i := 0) rfl))
    show Gf p e below _ T9 m 51 #[vr b1, vr a1, vi 0, vi 1, .val .null, vr r3] []
    refine gs (fun _ k => XS.aloadN X9.here hx rfl (hb y d2_51) rfl rfl (XS.aload X9.here hx rfl (hb y d2_52) rfl rfl k)) ?_
    obtain ⟨T14, h14, X14, e14, W14, st14⟩ := putF X9 hx hZ hown (host := "") (Or.inl (w30 hw)) Via.refl e9 fc12 ec11 (Or.inr ⟨(w31 hw), rfl, hnm⟩) (w3 hw) (ty := (.array .byte)) (by decide) rfl rfl (g := (mkF m 54 #[vr b1, vr a1, vi 0, vi 1, .val .null, vr r3] [(.ref r3), (.ref b1)])) rfl rfl (hb y d2_54)
    refine Gl.of st14 ?_
    have F14 : fV Z h14 b1 r3 := fc12.same W14
    have vc15 := vc10.other W14 hab
    have ec16 := ec11.wr W14
    have vc17 := vc13.other W14 ne_b1_r3.symm
    have fc18 := F9.other W14 (Or.inr (slot_ne (Or.inr (w29 hw)) (Or.inr (w31 hw)) (by decide) (t := .byte) (t' := (.array .byte)) (by decide) (by decide)))
    have N14 := Fr.snoc X14 N9 Gb1
    have O14 := O9.wr W14 Gb1
    have K14 := K9.wr W14 (Or.inl (List.mem_of_getElem? (i := 0) rfl))
    show Gf p e below _ T14 m 57 #[vr b1, vr a1, vi 0, vi 1, .val .null, vr r3] []
    exact Gl.ret0 X14 hx hlk hret (hb y d2_57) e14 (⟨rfl, N14, K14, _, F14, Or.inl ⟨fc18, vc17, le3⟩⟩) (by decide) (by decide)
  · show Gf p e below _ T3 m 39 #[vr b1, vr a1, vi 0, vi 1, .val .null, vu] [(.ref r3)]
    refine gs (fun _ k => XS.astore X3.here hx rfl (hb y d2_39) rfl rfl (l' := #[vr b1, vr a1, vi 0, vi 1, .val .null, vr r3]) rfl (XS.aloadN X3.here hx rfl (hb y d2_41) rfl rfl (XS.aload X3.here hx rfl (hb y d2_42) rfl rfl (XS.iloadN X3.here hx rfl (hb y d2_44) rfl k)))) ?_
    refine Gl.callS0 X3 hx hZ (y := my8) hown (w25 hw) (w26 hw) (w19 hw) (w27 hw) (desc_ne (by decide)) (argsL := [(.ref r3), (.int 1)]) (rest := [(.ref b1)]) (rmZ11 hw r3 kB _ Vq3) 1 (by decide) (by decide) rfl hml.symm pd_6 rfl rfl (Nat.le_of_eq rfl) (hb y d2_45) (by decide) (by decide) ?_
    intro v19 T19 X19 e19 hv19
    subst hv19
    show Gf p e below _ T19 m 48 #[vr b1, vr a1, vi 0, vi 1, .val .null, vr r3] [(.int 1), (.ref b1)]
    obtain ⟨T20, h20, X20, e20, W20, st20⟩ := putFN X19 hx hZ hown (w28 hw) Via.refl e19 fc7 ec5 (Or.inr ⟨(w29 hw), rfl, hnm⟩) (w3 hw) (ty := .byte) (v' := (.int (nar .byte (1 : Int32)))) (by decide) rfl (fits_nar_byte _) (g := (mkF m 48 #[vr b1, vr a1, vi 0, vi 1, .val .null, vr r3] [(.int 1), (.ref b1)])) rfl rfl (hb y d2_48)
    refine Gl.of st20 ?_
    have F20 : Fld Z h20 b1 "java/lang/String" "coder" "B" (.int (nar .byte (1 : Int32))) := fc7.same W20
    have vc21 := vc4.other W20 hab
    have ec22 := ec5.wr W20
    have fc23 := fc6.other W20 (Or.inr (slot_ne (Or.inr (w31 hw)) (Or.inr (w29 hw)) (by decide) (t := (.array .byte)) (t' := .byte) (by decide) (by decide)))
    have vc24 := Vq3.other W20 ne_b1_r3.symm
    have N20 := Fr.snoc X20 N3 Gb1
    have O20 := O3.wr W20 Gb1
    have K20 := K3.wr W20 (Or.inl (List.mem_of_getElem? (i := 0) rfl))
    show Gf p e below _ T20 m 51 #[vr b1, vr a1, vi 0, vi 1, .val .null, vr r3] []
    refine gs (fun _ k => XS.aloadN X20.here hx rfl (hb y d2_51) rfl rfl (XS.aload X20.here hx rfl (hb y d2_52) rfl rfl k)) ?_
    obtain ⟨T25, h25, X25, e25, W25, st25⟩ := putF X20 hx hZ hown (host := "") (Or.inl (w30 hw)) Via.refl e20 fc23 ec22 (Or.inr ⟨(w31 hw), rfl, hnm⟩) (w3 hw) (ty := (.array .byte)) (by decide) rfl rfl (g := (mkF m 54 #[vr b1, vr a1, vi 0, vi 1, .val .null, vr r3] [(.ref r3), (.ref b1)])) rfl rfl (hb y d2_54)
    refine Gl.of st25 ?_
    have F25 : fV Z h25 b1 r3 := fc23.same W25
    have vc26 := vc21.other W25 hab
    have ec27 := ec22.wr W25
    have vc28 := vc24.other W25 ne_b1_r3.symm
    have fc29 := F20.other W25 (Or.inr (slot_ne (Or.inr (w29 hw)) (Or.inr (w31 hw)) (by decide) (t := .byte) (t' := (.array .byte)) (by decide) (by decide)))
    have N25 := Fr.snoc X25 N20 Gb1
    have O25 := O20.wr W25 Gb1
    have K25 := K20.wr W25 (Or.inl (List.mem_of_getElem? (i := 0) rfl))
    show Gf p e below _ T25 m 57 #[vr b1, vr a1, vi 0, vi 1, .val .null, vr r3] []
    exact Gl.ret0 X25 hx hlk hret (hb y d2_57) e25 (⟨rfl, N25, K25, _, F25, Or.inr ⟨fc29, vc28⟩⟩) (by decide) (by decide)
theorem ef_10 (m : MethodId) (x0 : Addr) (x1 : Addr) : entryFrame m #[(.ref x0), (.ref x1)] 2 = mkF m 0 #[vr x0, vr x1] [] := by first | (simp [entryFrame, mkF, argsToLocals, Value.category, maxLocals]; done) | rfl
theorem d1_0 : decode bc11 0 = .ok (.aload_n 0, 1) := by decide +kernel
theorem d1_1 : decode bc11 1 = .ok (.aload_n 1, 1) := by decide +kernel
theorem d1_2 : decode bc11 2 = .ok (.iconst 0, 1) := by decide +kernel
theorem d1_3 : decode bc11 3 = .ok (.aload_n 1, 1) := by decide +kernel
theorem d1_4 : decode bc11 4 = .ok (.arraylength, 1) := by decide +kernel
theorem d1_5 : decode bc11 5 = .ok (.aconst_null, 1) := by decide +kernel
theorem d1_6 : decode bc11 6 = .ok (.invokespecial 27, 3) := by decide +kernel
theorem pd_7 : parseMethodDescriptor "([CIILjava/lang/Void;)V" = some ⟨[(.array .char), .int, .int, (.object "java/lang/Void")], none⟩ := by decide +kernel
theorem w9 (hw : HW Z a0) : (Jvm.Cond.methodLink "java/lang/String" (27 : Nat) ⟨"java/lang/String", "<init>", "([CIILjava/lang/Void;)V"⟩).before a0 Z = true := hw _ (wm 9 rfl)
theorem w10 (hw : HW Z a0) : (Jvm.Cond.instanceMethod ⟨"java/lang/String", "<init>", "([CIILjava/lang/Void;)V"⟩).before a0 Z = true := hw _ (wm 10 rfl)
theorem w4 (hw : HW Z a0) : (Jvm.Cond.initialized "java/lang/String").before a0 Z = true := hw _ (wm 4 rfl)
theorem w12 (hw : HW Z a0) : (Jvm.Cond.code ⟨"java/lang/String", "<init>", "([CIILjava/lang/Void;)V"⟩ bc4 (6 : Nat) (Option.none : Option Jvm.ClassFile.FieldType)).before a0 Z = true := hw _ (wm 12 rfl)
theorem d1_9 : decode bc11 9 = .ok (.return_, 1) := by decide +kernel
theorem rmJ1 {l : Launch} {Z : State} {a0 : Array Value} (hw : HW Z a0) {h0 : Heap} (b1 a1 : Addr) (kk1 kB : ClassId) (c0 : Int32) (cz : Int32) (n0 : Nat) (hfb : Z.vm.findClass "[B" = some kB) (E1 : xS Z h0 b1) (Fv : Fld Z h0 b1 "java/lang/String" "value" "[B" .null) (Fc : fC Z h0 b1 0) (Gb1 : n0 ≤ b1) (V1 : Arv Z h0 a1 kk1 .char (1 : Int32) [.int c0] (.int 0)) (hab : ¬ a1 = b1) (hr0 : rg c0) (SC : sSC Z cz) (hcz : ¬ cz = 0) (Sa : sSa Z) (Sh : sSh Z) (Sl : sSl Z) (O0 : Old Z n0 h0) : Con l Z my10 bc11 2 none [] (ro 5 2 3 84) 2 3 #[(.ref b1), (.ref a1)] h0 (fun v h L => v = none ∧ Fr n0 L ∧ Keep h0 h [b1] ∧ ∃ t, fV Z h b1 t ∧ ((fC Z h b1 0 ∧ Arv Z h t kB .byte (1 : Int32) [.int (o8 c0)] (.int 0) ∧ (¬ (255 : Int32) < c0)) ∨ (fC Z h b1 1 ∧ Arv Z h t kB .byte (2 : Int32) [.int (oh c0), .int (ol c0)] (.int 0)))) := by
  refine Con.intro (plainFor_of_name pn_1) ?_
  intro p e s m below meth c s₁ X0 hx y hml hZ hown hnm hret hlk e0 hs0
  refine gs (fun _ k => castTop (ef_10 m b1 a1) k) ?_
  have K0 := Keep.refl h0 [b1]
  show Gf p e below _ s₁ m 0 #[vr b1, vr a1] []
  refine gs (fun _ k => XS.aloadN X0.here hx rfl (hb y d1_0) rfl rfl (XS.aloadN X0.here hx rfl (hb y d1_1) rfl rfl (XS.iconst X0.here hx rfl (hb y d1_2) (XS.aloadN X0.here hx rfl (hb y d1_3) rfl rfl k)))) ?_
  obtain ⟨zcl1, zAr1, zq1, zS1, zM1, zH1, zG1⟩ := id V1
  refine gs (fun _ k => X0.arraylength hx (by rw [e0]; exact (zAr1).1) (State.isArrayOf_alike hZ.alike (zAr1).2.1) (g := (mkF m 4 #[vr b1, vr a1] [(.ref a1), (.int 0), (.ref a1), (.ref b1)])) rfl rfl (hb y d1_4) _ k) ?_
  rw [len_of zS1 (by decide)]
  show Gf p e below _ s₁ m 5 #[vr b1, vr a1] [(.int 1), (.int 0), (.ref a1), (.ref b1)]
  refine gs (fun _ k => XS.aconstNull X0.here hx rfl (hb y d1_5) k) ?_
  refine Gl.callI X0 hx hZ (y := my9) rfl hown (w9 hw) (w10 hw) (w4 hw) (w12 hw) (desc_ne (by decide)) (rm := ro 4 2 3 66) (b := b1) (argsL := [(.ref a1), (.int 0), (.int 1), .null]) (rest := []) (rmI1 hw b1 a1 kk1 kB c0 cz n0 hfb E1 Fv Fc Gb1 V1 hab hr0 SC hcz Sa Sh Sl O0) 0 (by decide) (by decide) (by decide) (by decide) e0 hml.symm pd_7 rfl rfl (Nat.le_of_eq rfl) (hb y d1_6) ?_
  intro v2 T2 L2 X2 hQ2
  obtain ⟨rfl, Nq2, Kq2, ex2⟩ := hQ2
  have N2 := Fr.app (Fr.nil n0) Nq2
  have vc3 := V1.keep Kq2 (fun q => hab (List.mem_singleton.mp q))
  have ec4 := E1.keep Kq2
  have O2 := O0.keep Kq2 (allS Gb1 all0)
  have K2 := K0.trans Kq2 (by intro x hx'; cases List.mem_singleton.mp hx'; exact Or.inl (List.mem_of_getElem? (i := 0) rfl))
  show Gf p e below _ T2 m 9 #[vr b1, vr a1] []
  exact Gl.ret0 X2 hx hlk hret (hb y d1_9) rfl (⟨rfl, N2, K2, ex2⟩) (by decide) (by decide)
theorem rmL2 {l : Launch} {Z : State} {a0 : Array Value} (hw : HW Z a0) {h0 : Heap} : Con l Z my2 bc24 1 (some .int) [] (ro 0 0 0 0) 0 0 #[(.int 2)] h0 (Pur (fun v => v = some (.int 4)) h0) := by
  refine Con.intro (plainFor_of_name pn_0) ?_
  intro p e s m below meth c s₁ X0 hx y hml hZ hown hnm hret hlk e0 hs0
  refine gs (fun _ k => castTop (ef_2 m (2 : Int32)) k) ?_
  show Gf p e below _ s₁ m 0 #[vi 2] []
  refine gs (fun _ k => XS.iloadN X0.here hx rfl (hb y d28_0) rfl (XS.ifYes X0.here hx rfl (pc0 := 1) (pc' := 12) rfl (hb y d28_1) rfl ((if0 _ _).trans (flt (by decide : ¬ ((2 : Int32) < (0 : Int32)))).2.1) (by decide) (by decide) (XS.iloadN X0.here hx rfl (hb y d28_12) rfl (X0.ldcInt hx hown (mvT hZ (w144 hw)) (g := (mkF m 13 #[vi 2] [(.int 2)])) rfl (hb y d28_13) _ (XS.icmpYes X0.here hx rfl (pc0 := 15) (pc' := 55) rfl (hb y d28_15) rfl (tlt (by decide : (2 : Int32) < (1073741823 : Int32))).1 (by decide) (by decide) (XS.iloadN X0.here hx rfl (hb y d28_55) rfl k)))))) ?_
  show Gf p e below _ s₁ m 56 #[vi 2] [(.int 2)]
  refine gs (fun _ k => XS.iconst X0.here hx rfl (hb y d28_56) (XS.ishl X0.here hx rfl (hb y d28_57) rfl k)) ?_
  show Gf p e below _ s₁ m 58 #[vi 2] [(.int 4)]
  exact Gl.retI X0 hx hlk hret (hb y d28_58) e0 (⟨rfl, rfl, rfl⟩) (by decide) (by decide)
theorem rmF2 {l : Launch} {Z : State} {a0 : Array Value} (hw : HW Z a0) {h0 : Heap} (kB : ClassId) (n0 : Nat) (hfb : Z.vm.findClass "[B" = some kB) (O0 : Old Z n0 h0) : Con l Z my3 bc23 1 (some (.array .byte)) [] (ro 1 1 4 13) 1 4 #[(.int 2)] h0 (fun v h L => ∃ r, v = some (.ref r) ∧ Arv Z h r kB .byte (4 : Int32) [.int (0 : Int32), .int (0 : Int32), .int (0 : Int32), .int (0 : Int32)] (.int 0) ∧ Keep h0 h [] ∧ Fr n0 L ∧ n0 ≤ r ∧ h0.size ≤ r) := by
  refine Con.intro (plainFor_of_name pn_0) ?_
  intro p e s m below meth c s₁ X0 hx y hml hZ hown hnm hret hlk e0 hs0
  refine gs (fun _ k => castTop (ef_3 m (2 : Int32)) k) ?_
  have K0 := Keep.refl h0 []
  show Gf p e below _ s₁ m 0 #[vi 2] []
  refine gs (fun _ k => XS.iloadN X0.here hx rfl (hb y d27_0) rfl k) ?_
  refine Gl.callS0 X0 hx hZ (y := my2) hown (w141 hw) (w142 hw) (w19 hw) (w143 hw) (desc_ne (by decide)) (argsL := [(.int 2)]) (rest := []) (rmL2 hw) 0 (by decide) (by decide) e0 hml.symm pd_0 rfl rfl (Nat.le_of_eq rfl) (hb y d27_1) (by decide) (by decide) ?_
  intro v1 T1 X1 e1 hv1
  subst hv1
  show Gf p e below _ T1 m 4 #[vi 2] [(.int 4)]
  obtain ⟨T2, h2, k2, X2, e2, E2, A2, Ex2, st2⟩ := newPE (aty := .byte) X1 hx hZ (w21 hw) e1 (g := (mkF m 4 #[vi 2] [(.int 4)])) rfl (hb y d27_4) rfl (by decide) (cap := 4) (by decide) (by decide) (by decide) (by decide) (ad := "[B") rfl
  have kq2 := own_fbn A2 Ex2 hfb
  rw [kq2] at A2
  obtain ⟨b2, g2⟩ : ∃ z, z = h0.size := ⟨_, rfl⟩
  rw [← g2] at A2 st2
  refine Gl.of st2 ?_
  have Gb2 : n0 ≤ b2 := Nat.le_trans (O0.1 ▸ O0.2.1) (Nat.le_of_eq g2.symm)
  have Jb2 : h0.size ≤ b2 := Nat.le_trans K0.1 (Nat.le_of_eq g2.symm)
  have O2 := O0.ext E2
  have K2 := K0.ext E2
  have V2 : Arv Z h2 b2 kB .byte (4 : Int32) [(.int 0), (.int 0), (.int 0), (.int 0)] (.int 0) := (Arv.new A2 (by decide)).pad (pad_rep [] (.int 0) 4)
  show Gf p e below _ T2 m 6 #[vi 2] [(.ref b2)]
  exact Gl.retR X2 hx hlk hret rfl rfl (hb y d27_6) e2 (⟨_, rfl, V2, K2, (Fr.nil n0), Gb2, Jb2⟩) (by decide) (by decide)
theorem rmB2 {l : Launch} {Z : State} {a0 : Array Value} (hw : HW Z a0) {h0 : Heap} (a1 : Addr) (kk1 kB : ClassId) (c0 c1 : Int32) (n0 : Nat) (hfb : Z.vm.findClass "[B" = some kB) (V1 : Arv Z h0 a1 kk1 .char (2 : Int32) [.int c0, .int c1] (.int 0)) (Sa : sSa Z) (Sh : sSh Z) (Sl : sSl Z) (O0 : Old Z n0 h0) : Con l Z my4 bc17 5 (some (.array .byte)) [] (ro 2 1 4 26) 1 4 #[(.ref a1), (.int 0), (.int 2)] h0 (fun v h L => ∃ r, v = some (.ref r) ∧ Arv Z h r kB .byte (4 : Int32) [.int (oh c0), .int (ol c0), .int (oh c1), .int (ol c1)] (.int 0) ∧ Keep h0 h [] ∧ Fr n0 L ∧ n0 ≤ r ∧ h0.size ≤ r) := by
  refine Con.intro (plainFor_of_name pn_0) ?_
  intro p e s m below meth c s₁ X0 hx y hml hZ hown hnm hret hlk e0 hs0
  refine gs (fun _ k => castTop (ef_4 m a1 (0 : Int32) (2 : Int32)) k) ?_
  have K0 := Keep.refl h0 []
  show Gf p e below _ s₁ m 0 #[vr a1, vi 0, vi 2, vu, vu] []
  refine gs (fun _ k => XS.iloadN X0.here hx rfl (hb y d26_0) rfl k) ?_
  refine Gl.callS X0 hx hZ (y := my3) hown (w138 hw) (w139 hw) (w19 hw) (w140 hw) (desc_ne (by decide)) (rm := ro 1 1 4 13) (argsL := [(.int 2)]) (rest := []) (rmF2 hw kB n0 hfb O0) 0 (by decide) (by decide) (by decide) (by decide) e0 hml.symm pd_1 rfl rfl (Nat.le_of_eq rfl) (hb y d26_1) ?_
  intro v1 T1 L1 X1 hQ1
  obtain ⟨r1, rfl, Vq1, Kq1, Nq1, Gr1, H1⟩ := hQ1
  have N1 := Fr.app (Fr.nil n0) Nq1
  have ne_a1_r1 : a1 ≠ r1 := Nat.ne_of_lt (Nat.lt_of_lt_of_le V1.lt H1)
  have Jr1 : h0.size ≤ r1 := Nat.le_trans K0.1 H1
  have vc2 := V1.keep Kq1 (by simp)
  have O1 := O0.keep Kq1 all0
  have K1 := K0.trans Kq1 (by intro x hx'; exact nomatch hx')
  show Gf p e below _ T1 m 4 #[vr a1, vi 0, vi 2, vu, vu] [(.ref r1)]
  refine gs (fun _ k => XS.astoreN X1.here hx rfl (hb y d26_4) rfl rfl (l' := #[vr a1, vi 0, vi 2, vr r1, vu]) rfl (XS.iconst X1.here hx rfl (hb y d26_5) (XS.istore X1.here hx rfl (hb y d26_6) rfl (l' := #[vr a1, vi 0, vi 2, vr r1, vi 0]) rfl (XS.iload X1.here hx rfl (hb y d26_8) rfl (XS.iloadN X1.here hx rfl (hb y d26_10) rfl (XS.icmpNo X1.here hx rfl (hb y d26_11) rfl (tlt (by decide : (0 : Int32) < (2 : Int32))).2.1 k)))))) ?_
  show Gf p e below _ T1 m 14 #[vr a1, vi 0, vi 2, vr r1, vi 0] []
  refine gs (fun _ k => XS.aloadN X1.here hx rfl (hb y d26_14) rfl rfl (XS.iload X1.here hx rfl (hb y d26_15) rfl (XS.aloadN X1.here hx rfl (hb y d26_17) rfl rfl (XS.iloadN X1.here hx rfl (hb y d26_18) rfl k)))) ?_
  obtain ⟨zcl3, zAr3, zq3, zS3, zM3, zH3, zG3⟩ := id vc2
  refine gs (fun _ k => X1.caload hx (j := (0 : Int32)) (v := (.int c0)) (zAr3).1 (State.isArrayOf_alike hZ.alike (zAr3).2.1) (zAr3).2.2 (inb_of zS3 ⟨by decide, by decide⟩) (zH3 0 (by rw [zS3]; decide)) (g := (mkF m 19 #[vr a1, vi 0, vi 2, vr r1, vi 0] [(.int 0), (.ref a1), (.int 0), (.ref r1)])) rfl rfl (hb y d26_19) _ k) ?_
  show Gf p e below _ T1 m 20 #[vr a1, vi 0, vi 2, vr r1, vi 0] [(.int c0), (.int 0), (.ref r1)]
  refine Gl.callS X1 hx hZ (y := my1) hown (w145 hw) (w146 hw) (w19 hw) (w147 hw) (desc_ne (by decide)) (rm := ro 0 0 0 0) (argsL := [(.ref r1), (.int 0), (.int c0)]) (rest := []) (rmP40 hw r1 kB (0 : Int32) (0 : Int32) (0 : Int32) (0 : Int32) c0 n0 Vq1 Gr1 Sa Sh Sl O1) 0 (by decide) (by decide) (by decide) (by decide) rfl hml.symm pd_2 rfl rfl (Nat.le_of_eq rfl) (hb y d26_20) ?_
  intro v4 T4 L4 X4 hQ4
  obtain ⟨rfl, Nq4, Kq4, Vq4⟩ := hQ4
  have N4 := Fr.app N1 Nq4
  have vc5 := vc2.keep Kq4 (fun q => ne_a1_r1 (List.mem_singleton.mp q))
  have O4 := O1.keep Kq4 (allS Gr1 all0)
  have K4 := K1.trans Kq4 (by intro x hx'; cases List.mem_singleton.mp hx'; exact Or.inr Jr1)
  show Gf p e below _ T4 m 23 #[vr a1, vi 0, vi 2, vr r1, vi 0] []
  refine gs (fun _ k => XS.iinc X4.here hx rfl (hb y d26_23) rfl (l' := #[vr a1, vi 1, vi 2, vr r1, vi 0]) rfl (XS.iinc X4.here hx rfl (hb y d26_26) rfl (l' := #[vr a1, vi 1, vi 2, vr r1, vi 1]) rfl (XS.goto X4.here hx rfl (pc0 := 29) (pc' := 8) rfl (hb y d26_29) (by decide) (by decide) (XS.iload X4.here hx rfl (hb y d26_8) rfl (XS.iloadN X4.here hx rfl (hb y d26_10) rfl (XS.icmpNo X4.here hx rfl (hb y d26_11) rfl (tlt (by decide : (1 : Int32) < (2 : Int32))).2.1 k)))))) ?_
  show Gf p e below _ T4 m 14 #[vr a1, vi 1, vi 2, vr r1, vi 1] []
  refine gs (fun _ k => XS.aloadN X4.here hx rfl (hb y d26_14) rfl rfl (XS.iload X4.here hx rfl (hb y d26_15) rfl (XS.aloadN X4.here hx rfl (hb y d26_17) rfl rfl (XS.iloadN X4.here hx rfl (hb y d26_18) rfl k)))) ?_
  obtain ⟨zcl6, zAr6, zq6, zS6, zM6, zH6, zG6⟩ := id vc5
  refine gs (fun _ k => X4.caload hx (j := (1 : Int32)) (v := (.int c1)) (zAr6).1 (State.isArrayOf_alike hZ.alike (zAr6).2.1) (zAr6).2.2 (inb_of zS6 ⟨by decide, by decide⟩) (zH6 1 (by rw [zS6]; decide)) (g := (mkF m 19 #[vr a1, vi 1, vi 2, vr r1, vi 1] [(.int 1), (.ref a1), (.int 1), (.ref r1)])) rfl rfl (hb y d26_19) _ k) ?_
  show Gf p e below _ T4 m 20 #[vr a1, vi 1, vi 2, vr r1, vi 1] [(.int c1), (.int 1), (.ref r1)]
  refine Gl.callS X4 hx hZ (y := my1) hown (w145 hw) (w146 hw) (w19 hw) (w147 hw) (desc_ne (by decide)) (rm := ro 0 0 0 0) (argsL := [(.ref r1), (.int 1), (.int c1)]) (rest := []) (rmP41 hw r1 kB (oh c0) (ol c0) (0 : Int32) (0 : Int32) c1 n0 Vq4 Gr1 Sa Sh Sl O4) 0 (by decide) (by decide) (by decide) (by decide) rfl hml.symm pd_2 rfl rfl (Nat.le_of_eq rfl) (hb y d26_20) ?_
  intro v7 T7 L7 X7 hQ7
  obtain ⟨rfl, Nq7, Kq7, Vq7⟩ := hQ7
  have N7 := Fr.app N4 Nq7
  have vc8 := vc5.keep Kq7 (fun q => ne_a1_r1 (List.mem_singleton.mp q))
  have O7 := O4.keep Kq7 (allS Gr1 all0)
  have K7 := K4.trans Kq7 (by intro x hx'; cases List.mem_singleton.mp hx'; exact Or.inr Jr1)
  show Gf p e below _ T7 m 23 #[vr a1, vi 1, vi 2, vr r1, vi 1] []
  refine gs (fun _ k => XS.iinc X7.here hx rfl (hb y d26_23) rfl (l' := #[vr a1, vi 2, vi 2, vr r1, vi 1]) rfl (XS.iinc X7.here hx rfl (hb y d26_26) rfl (l' := #[vr a1, vi 2, vi 2, vr r1, vi 2]) rfl (XS.goto X7.here hx rfl (pc0 := 29) (pc' := 8) rfl (hb y d26_29) (by decide) (by decide) (XS.iload X7.here hx rfl (hb y d26_8) rfl (XS.iloadN X7.here hx rfl (hb y d26_10) rfl (XS.icmpYes X7.here hx rfl (pc0 := 11) (pc' := 32) rfl (hb y d26_11) rfl (flt (by decide : ¬ ((2 : Int32) < (2 : Int32)))).2.1 (by decide) (by decide) k)))))) ?_
  show Gf p e below _ T7 m 32 #[vr a1, vi 2, vi 2, vr r1, vi 2] []
  refine gs (fun _ k => XS.aloadN X7.here hx rfl (hb y d26_32) rfl rfl k) ?_
  exact Gl.retR X7 hx hlk hret rfl rfl (hb y d26_33) rfl (⟨_, rfl, Vq7, K7, N7, Gr1, Jr1⟩) (by decide) (by decide)
theorem rmG20 {l : Launch} {Z : State} {a0 : Array Value} (hw : HW Z a0) {h0 : Heap} (a1 : Addr) (kB : ClassId) (c0 c1 : Int32) (n0 : Nat) (V1 : Arv Z h0 a1 kB .byte (4 : Int32) [.int (oh c0), .int (ol c0), .int (oh c1), .int (ol c1)] (.int 0)) (hr : rg c0) (Sa : sSa Z) (Sh : sSh Z) (Sl : sSl Z) (O0 : Old Z n0 h0) : Con l Z my5 bc26 2 (some .char) [] (ro 0 0 0 0) 0 0 #[(.ref a1), (.int 0)] h0 (Pur (fun v => v = some (.int c0)) h0) := by
  refine Con.intro (plainFor_of_name pn_0) ?_
  intro p e s m below meth c s₁ X0 hx y hml hZ hown hnm hret hlk e0 hs0
  refine gs (fun _ k => castTop (ef_5 m a1 (0 : Int32)) k) ?_
  show Gf p e below _ s₁ m 0 #[vr a1, vi 0] []
  obtain ⟨T1, X1, e1, st1⟩ := getS2 X0 hx hZ hown (host := "") (Or.inl (w148 hw)) Via.refl e0 (Sa.ext O0.2) (g := (mkF m 0 #[vr a1, vi 0] [])) rfl (hb y d30_0)
  refine Gl.of st1 ?_
  show Gf p e below _ T1 m 3 #[vr a1, vi 0] [(.int 1)]
  refine gs (fun _ k => XS.ifYes X1.here hx rfl (pc0 := 3) (pc' := 28) rfl (hb y d30_3) rfl ((if0 _ _).trans (feq (by decide : ¬ ((1 : Int32) = (0 : Int32)))).2) (by decide) (by decide) (XS.iloadN X1.here hx rfl (hb y d30_28) rfl (XS.iconst X1.here hx rfl (hb y d30_29) (XS.ishl X1.here hx rfl (hb y d30_30) rfl k)))) ?_
  show Gf p e below _ T1 m 31 #[vr a1, vi 0] [(.int 0)]
  refine gs (fun _ k => XS.istoreN X1.here hx rfl (hb y d30_31) rfl (l' := #[vr a1, vi 0]) rfl (XS.aloadN X1.here hx rfl (hb y d30_32) rfl rfl (XS.iloadN X1.here hx rfl (hb y d30_33) rfl (XS.iinc X1.here hx rfl (hb y d30_34) rfl (l' := #[vr a1, vi 1]) rfl k)))) ?_
  obtain ⟨zcl2, zAr2, zq2, zS2, zM2, zH2, zG2⟩ := id V1
  refine gs (fun _ k => X1.baloadBytes hx (j := (0 : Int32)) (v := (.int (oh c0))) (by rw [e1]; exact (zAr2).1) (State.isArrayOf_alike hZ.alike (zAr2).2.1) (zAr2).2.2 (inb_of zS2 ⟨by decide, by decide⟩) (zH2 0 (by rw [zS2]; decide)) (g := (mkF m 37 #[vr a1, vi 1] [(.int 0), (.ref a1)])) rfl rfl (hb y d30_37) _ k) ?_
  show Gf p e below _ T1 m 38 #[vr a1, vi 1] [(.int (oh c0))]
  refine gs (fun _ k => XS.sipush X1.here hx rfl (hb y d30_38) (XS.iand X1.here hx rfl (hb y d30_41) rfl k)) ?_
  obtain ⟨T3, X3, e3, st3⟩ := getS2 X1 hx hZ hown (host := "") (Or.inl (w149 hw)) Via.refl e1 (Sh.ext O0.2) (g := (mkF m 42 #[vr a1, vi 1] [(.int ((oh c0) &&& (255 : Int32)))])) rfl (hb y d30_42)
  refine Gl.of st3 ?_
  show Gf p e below _ T3 m 45 #[vr a1, vi 1] [(.int 0), (.int ((oh c0) &&& (255 : Int32)))]
  refine gs (fun _ k => XS.ishl X3.here hx rfl (hb y d30_45) rfl (XS.aloadN X3.here hx rfl (hb y d30_46) rfl rfl (XS.iloadN X3.here hx rfl (hb y d30_47) rfl k))) ?_
  obtain ⟨zcl4, zAr4, zq4, zS4, zM4, zH4, zG4⟩ := id V1
  refine gs (fun _ k => X3.baloadBytes hx (j := (1 : Int32)) (v := (.int (ol c0))) (by rw [e3]; exact (zAr4).1) (State.isArrayOf_alike hZ.alike (zAr4).2.1) (zAr4).2.2 (inb_of zS4 ⟨by decide, by decide⟩) (zH4 1 (by rw [zS4]; decide)) (g := (mkF m 48 #[vr a1, vi 1] [(.int 1), (.ref a1), (.int (((oh c0) &&& (255 : Int32)) <<< ((0 : Int32) &&& 31)))])) rfl rfl (hb y d30_48) _ k) ?_
  show Gf p e below _ T3 m 49 #[vr a1, vi 1] [(.int (ol c0)), (.int (((oh c0) &&& (255 : Int32)) <<< ((0 : Int32) &&& 31)))]
  refine gs (fun _ k => XS.sipush X3.here hx rfl (hb y d30_49) (XS.iand X3.here hx rfl (hb y d30_52) rfl k)) ?_
  obtain ⟨T5, X5, e5, st5⟩ := getS2 X3 hx hZ hown (host := "") (Or.inl (w150 hw)) Via.refl e3 (Sl.ext O0.2) (g := (mkF m 53 #[vr a1, vi 1] [(.int ((ol c0) &&& (255 : Int32))), (.int (((oh c0) &&& (255 : Int32)) <<< ((0 : Int32) &&& 31)))])) rfl (hb y d30_53)
  refine Gl.of st5 ?_
  show Gf p e below _ T5 m 56 #[vr a1, vi 1] [(.int 8), (.int ((ol c0) &&& (255 : Int32))), (.int (((oh c0) &&& (255 : Int32)) <<< ((0 : Int32) &&& 31)))]
  refine gs (fun _ k => XS.ishl X5.here hx rfl (hb y d30_56) rfl (XS.ior X5.here hx rfl (hb y d30_57) rfl (XS.i2c X5.here hx rfl (hb y d30_58) rfl k))) ?_
  exact Gl.retN X5 hx hlk hret (by simp) (hb y d30_59) e5 (⟨congrArg (fun z => some (Value.int z)) (own_gch hr), rfl, rfl⟩) (by decide) (by decide)
theorem rmG21 {l : Launch} {Z : State} {a0 : Array Value} (hw : HW Z a0) {h0 : Heap} (a1 : Addr) (kB : ClassId) (c0 c1 : Int32) (n0 : Nat) (V1 : Arv Z h0 a1 kB .byte (4 : Int32) [.int (oh c0), .int (ol c0), .int (oh c1), .int (ol c1)] (.int 0)) (hr : rg c1) (Sa : sSa Z) (Sh : sSh Z) (Sl : sSl Z) (O0 : Old Z n0 h0) : Con l Z my5 bc26 2 (some .char) [] (ro 0 0 0 0) 0 0 #[(.ref a1), (.int 1)] h0 (Pur (fun v => v = some (.int c1)) h0) := by
  refine Con.intro (plainFor_of_name pn_0) ?_
  intro p e s m below meth c s₁ X0 hx y hml hZ hown hnm hret hlk e0 hs0
  refine gs (fun _ k => castTop (ef_5 m a1 (1 : Int32)) k) ?_
  show Gf p e below _ s₁ m 0 #[vr a1, vi 1] []
  obtain ⟨T1, X1, e1, st1⟩ := getS2 X0 hx hZ hown (host := "") (Or.inl (w148 hw)) Via.refl e0 (Sa.ext O0.2) (g := (mkF m 0 #[vr a1, vi 1] [])) rfl (hb y d30_0)
  refine Gl.of st1 ?_
  show Gf p e below _ T1 m 3 #[vr a1, vi 1] [(.int 1)]
  refine gs (fun _ k => XS.ifYes X1.here hx rfl (pc0 := 3) (pc' := 28) rfl (hb y d30_3) rfl ((if0 _ _).trans (feq (by decide : ¬ ((1 : Int32) = (0 : Int32)))).2) (by decide) (by decide) (XS.iloadN X1.here hx rfl (hb y d30_28) rfl (XS.iconst X1.here hx rfl (hb y d30_29) (XS.ishl X1.here hx rfl (hb y d30_30) rfl k)))) ?_
  show Gf p e below _ T1 m 31 #[vr a1, vi 1] [(.int 2)]
  refine gs (fun _ k => XS.istoreN X1.here hx rfl (hb y d30_31) rfl (l' := #[vr a1, vi 2]) rfl (XS.aloadN X1.here hx rfl (hb y d30_32) rfl rfl (XS.iloadN X1.here hx rfl (hb y d30_33) rfl (XS.iinc X1.here hx rfl (hb y d30_34) rfl (l' := #[vr a1, vi 3]) rfl k)))) ?_
  obtain ⟨zcl2, zAr2, zq2, zS2, zM2, zH2, zG2⟩ := id V1
  refine gs (fun _ k => X1.baloadBytes hx (j := (2 : Int32)) (v := (.int (oh c1))) (by rw [e1]; exact (zAr2).1) (State.isArrayOf_alike hZ.alike (zAr2).2.1) (zAr2).2.2 (inb_of zS2 ⟨by decide, by decide⟩) (zH2 2 (by rw [zS2]; decide)) (g := (mkF m 37 #[vr a1, vi 3] [(.int 2), (.ref a1)])) rfl rfl (hb y d30_37) _ k) ?_
  show Gf p e below _ T1 m 38 #[vr a1, vi 3] [(.int (oh c1))]
  refine gs (fun _ k => XS.sipush X1.here hx rfl (hb y d30_38) (XS.iand X1.here hx rfl (hb y d30_41) rfl k)) ?_
  obtain ⟨T3, X3, e3, st3⟩ := getS2 X1 hx hZ hown (host := "") (Or.inl (w149 hw)) Via.refl e1 (Sh.ext O0.2) (g := (mkF m 42 #[vr a1, vi 3] [(.int ((oh c1) &&& (255 : Int32)))])) rfl (hb y d30_42)
  refine Gl.of st3 ?_
  show Gf p e below _ T3 m 45 #[vr a1, vi 3] [(.int 0), (.int ((oh c1) &&& (255 : Int32)))]
  refine gs (fun _ k => XS.ishl X3.here hx rfl (hb y d30_45) rfl (XS.aloadN X3.here hx rfl (hb y d30_46) rfl rfl (XS.iloadN X3.here hx rfl (hb y d30_47) rfl k))) ?_
  obtain ⟨zcl4, zAr4, zq4, zS4, zM4, zH4, zG4⟩ := id V1
  refine gs (fun _ k => X3.baloadBytes hx (j := (3 : Int32)) (v := (.int (ol c1))) (by rw [e3]; exact (zAr4).1) (State.isArrayOf_alike hZ.alike (zAr4).2.1) (zAr4).2.2 (inb_of zS4 ⟨by decide, by decide⟩) (zH4 3 (by rw [zS4]; decide)) (g := (mkF m 48 #[vr a1, vi 3] [(.int 3), (.ref a1), (.int (((oh c1) &&& (255 : Int32)) <<< ((0 : Int32) &&& 31)))])) rfl rfl (hb y d30_48) _ k) ?_
  show Gf p e below _ T3 m 49 #[vr a1, vi 3] [(.int (ol c1)), (.int (((oh c1) &&& (255 : Int32)) <<< ((0 : Int32) &&& 31)))]
  refine gs (fun _ k => XS.sipush X3.here hx rfl (hb y d30_49) (XS.iand X3.here hx rfl (hb y d30_52) rfl k)) ?_
  obtain ⟨T5, X5, e5, st5⟩ := getS2 X3 hx hZ hown (host := "") (Or.inl (w150 hw)) Via.refl e3 (Sl.ext O0.2) (g := (mkF m 53 #[vr a1, vi 3] [(.int ((ol c1) &&& (255 : Int32))), (.int (((oh c1) &&& (255 : Int32)) <<< ((0 : Int32) &&& 31)))])) rfl (hb y d30_53)
  refine Gl.of st5 ?_
  show Gf p e below _ T5 m 56 #[vr a1, vi 3] [(.int 8), (.int ((ol c1) &&& (255 : Int32))), (.int (((oh c1) &&& (255 : Int32)) <<< ((0 : Int32) &&& 31)))]
  refine gs (fun _ k => XS.ishl X5.here hx rfl (hb y d30_56) rfl (XS.ior X5.here hx rfl (hb y d30_57) rfl (XS.i2c X5.here hx rfl (hb y d30_58) rfl k))) ?_
  exact Gl.retN X5 hx hlk hret (by simp) (hb y d30_59) e5 (⟨congrArg (fun z => some (Value.int z)) (own_gch hr), rfl, rfl⟩) (by decide) (by decide)
theorem rmK2 {l : Launch} {Z : State} {a0 : Array Value} (hw : HW Z a0) {h0 : Heap} (a1 a2 : Addr) (kk1 kB : ClassId) (c0 c1 : Int32) (n0 : Nat) (V1 : Arv Z h0 a1 kk1 .char (2 : Int32) [.int c0, .int c1] (.int 0)) (V2 : Arv Z h0 a2 kB .byte (2 : Int32) [.int (0 : Int32), .int (0 : Int32)] (.int 0)) (hne : ¬ a1 = a2) (Ga2 : n0 ≤ a2) (O0 : Old Z n0 h0) : Con l Z my6 bc21 7 (some .int) [] (ro 0 0 0 0) 0 0 #[(.ref a1), (.int 0), (.ref a2), (.int 0), (.int 2)] h0 (fun v h L => ∃ r vs, v = some (.int r) ∧ Fr n0 L ∧ Keep h0 h [a2] ∧ Arv Z h a2 kB .byte (2 : Int32) vs (.int 0) ∧ ((r = (2 : Int32) ∧ vs = [.int (o8 c0), .int (o8 c1)] ∧ (¬ (255 : Int32) < c0 ∧ ¬ (255 : Int32) < c1)) ∨ (r = (0 : Int32) ∧ (255 : Int32) < c0) ∨ (r = (1 : Int32) ∧ (255 : Int32) < c1))) := by
  refine Con.intro (plainFor_of_name pn_0) ?_
  intro p e s m below meth c s₁ X0 hx y hml hZ hown hnm hret hlk e0 hs0
  refine gs (fun _ k => castTop (ef_6 m a1 (0 : Int32) a2 (0 : Int32) (2 : Int32)) k) ?_
  have K0 := Keep.refl h0 [a2]
  show Gf p e below _ s₁ m 0 #[vr a1, vi 0, vr a2, vi 0, vi 2, vu, vu] []
  refine gs (fun _ k => XS.iconst X0.here hx rfl (hb y d5_0) (XS.istore X0.here hx rfl (hb y d5_1) rfl (l' := #[vr a1, vi 0, vr a2, vi 0, vi 2, vi 0, vu]) rfl (XS.iload X0.here hx rfl (hb y d5_3) rfl (XS.iload X0.here hx rfl (hb y d5_5) rfl (XS.icmpNo X0.here hx rfl (hb y d5_7) rfl (tlt (by decide : (0 : Int32) < (2 : Int32))).2.1 (XS.aloadN X0.here hx rfl (hb y d5_10) rfl rfl k)))))) ?_
  show Gf p e below _ s₁ m 11 #[vr a1, vi 0, vr a2, vi 0, vi 2, vi 0, vu] [(.ref a1)]
  refine gs (fun _ k => XS.iloadN X0.here hx rfl (hb y d5_11) rfl k) ?_
  obtain ⟨zcl1, zAr1, zq1, zS1, zM1, zH1, zG1⟩ := id V1
  refine gs (fun _ k => X0.caload hx (j := (0 : Int32)) (v := (.int c0)) (by rw [e0]; exact (zAr1).1) (State.isArrayOf_alike hZ.alike (zAr1).2.1) (zAr1).2.2 (inb_of zS1 ⟨by decide, by decide⟩) (zH1 0 (by rw [zS1]; decide)) (g := (mkF m 12 #[vr a1, vi 0, vr a2, vi 0, vi 2, vi 0, vu] [(.int 0), (.ref a1)])) rfl rfl (hb y d5_12) _ k) ?_
  show Gf p e below _ s₁ m 13 #[vr a1, vi 0, vr a2, vi 0, vi 2, vi 0, vu] [(.int c0)]
  refine gs (fun _ k => XS.istore X0.here hx rfl (hb y d5_13) rfl (l' := #[vr a1, vi 0, vr a2, vi 0, vi 2, vi 0, vi c0]) rfl (XS.iload X0.here hx rfl (hb y d5_15) rfl (XS.sipush X0.here hx rfl (hb y d5_17) k))) ?_
  by_cases hc20_2 : (255 : Int32) < c0
  · refine Gl.of (fun _ kq_ => XS.icmpNo X0.here hx rfl (hb y d5_20) rfl (tlt hc20_2).2.2.2 kq_) ?_
    refine gs (fun _ k => XS.iload X0.here hx rfl (hb y d5_23) rfl k) ?_
    exact Gl.retI X0 hx hlk hret (hb y d5_25) e0 (⟨_, _, rfl, (Fr.nil n0), K0, V2, Or.inr (Or.inl ⟨rfl, hc20_2⟩)⟩) (by decide) (by decide)
  · refine Gl.of (fun _ kq_ => XS.icmpYes X0.here hx rfl (pc0 := 20) (pc' := 26) rfl (hb y d5_20) rfl (flt hc20_2).2.2.2 (by decide) (by decide) kq_) ?_
    refine gs (fun _ k => XS.aloadN X0.here hx rfl (hb y d5_26) rfl rfl (XS.iloadN X0.here hx rfl (hb y d5_27) rfl k)) ?_
    show Gf p e below _ s₁ m 28 #[vr a1, vi 0, vr a2, vi 0, vi 2, vi 0, vi c0] [(.int 0), (.ref a2)]
    refine gs (fun _ k => XS.iload X0.here hx rfl (hb y d5_28) rfl (XS.i2b X0.here hx rfl (hb y d5_30) rfl k)) ?_
    obtain ⟨zcl3, zAr3, zq3, zS3, zM3, zH3, zG3⟩ := id V2
    obtain ⟨T4, h4, X4, e4, W4, st4⟩ := stB X0 hx hZ e0 zAr3 (j := (0 : Int32)) (inb_of zS3 ⟨by decide, by decide⟩) (g := (mkF m 31 #[vr a1, vi 0, vr a2, vi 0, vi 2, vi 0, vi c0] [(.int (c0.toInt8.toInt32)), (.int 0), (.ref a2)])) rfl rfl (hb y d5_31)
    refine Gl.of st4 ?_
    have V4 : Arv Z h4 a2 kB .byte (2 : Int32) [(.int (nar .byte (c0.toInt8.toInt32))), (.int 0)] (.int 0) := Arv.set zAr3 zq3 zS3 zM3 zH3 zG3 (fits_nar_byte _) W4 0 rfl (Nat.le_of_ble_eq_true rfl)
    have vc5 := V1.other W4 hne
    have N4 := Fr.snoc X4 (Fr.nil n0) Ga2
    have O4 := O0.wr W4 Ga2
    have K4 := K0.wr W4 (Or.inl (List.mem_of_getElem? (i := 0) rfl))
    show Gf p e below _ T4 m 32 #[vr a1, vi 0, vr a2, vi 0, vi 2, vi 0, vi c0] []
    refine gs (fun _ k => XS.iinc X4.here hx rfl (hb y d5_32) rfl (l' := #[vr a1, vi 1, vr a2, vi 0, vi 2, vi 0, vi c0]) rfl (XS.iinc X4.here hx rfl (hb y d5_35) rfl (l' := #[vr a1, vi 1, vr a2, vi 1, vi 2, vi 0, vi c0]) rfl (XS.iinc X4.here hx rfl (hb y d5_38) rfl (l' := #[vr a1, vi 1, vr a2, vi 1, vi 2, vi 1, vi c0]) rfl (XS.goto X4.here hx rfl (pc0 := 41) (pc' := 3) rfl (hb y d5_41) (by decide) (by decide) (XS.iload X4.here hx rfl (hb y d5_3) rfl (XS.iload X4.here hx rfl (hb y d5_5) rfl k)))))) ?_
    show Gf p e below _ T4 m 7 #[vr a1, vi 1, vr a2, vi 1, vi 2, vi 1, vi c0] [(.int 2), (.int 1)]
    refine gs (fun _ k => XS.icmpNo X4.here hx rfl (hb y d5_7) rfl (tlt (by decide : (1 : Int32) < (2 : Int32))).2.1 (XS.aloadN X4.here hx rfl (hb y d5_10) rfl rfl (XS.iloadN X4.here hx rfl (hb y d5_11) rfl k))) ?_
    obtain ⟨zcl6, zAr6, zq6, zS6, zM6, zH6, zG6⟩ := id vc5
    refine gs (fun _ k => X4.caload hx (j := (1 : Int32)) (v := (.int c1)) (by rw [e4]; exact (zAr6).1) (State.isArrayOf_alike hZ.alike (zAr6).2.1) (zAr6).2.2 (inb_of zS6 ⟨by decide, by decide⟩) (zH6 1 (by rw [zS6]; decide)) (g := (mkF m 12 #[vr a1, vi 1, vr a2, vi 1, vi 2, vi 1, vi c0] [(.int 1), (.ref a1)])) rfl rfl (hb y d5_12) _ k) ?_
    show Gf p e below _ T4 m 13 #[vr a1, vi 1, vr a2, vi 1, vi 2, vi 1, vi c0] [(.int c1)]
    refine gs (fun _ k => XS.istore X4.here hx rfl (hb y d5_13) rfl (l' := #[vr a1, vi 1, vr a2, vi 1, vi 2, vi 1, vi c1]) rfl (XS.iload X4.here hx rfl (hb y d5_15) rfl (XS.sipush X4.here hx rfl (hb y d5_17) k))) ?_
    by_cases hc20_7 : (255 : Int32) < c1
    · refine Gl.of (fun _ kq_ => XS.icmpNo X4.here hx rfl (hb y d5_20) rfl (tlt hc20_7).2.2.2 kq_) ?_
      refine gs (fun _ k => XS.iload X4.here hx rfl (hb y d5_23) rfl k) ?_
      exact Gl.retI X4 hx hlk hret (hb y d5_25) e4 (⟨_, _, rfl, N4, K4, V4, Or.inr (Or.inr (⟨rfl, hc20_7⟩))⟩) (by decide) (by decide)
    · refine Gl.of (fun _ kq_ => XS.icmpYes X4.here hx rfl (pc0 := 20) (pc' := 26) rfl (hb y d5_20) rfl (flt hc20_7).2.2.2 (by decide) (by decide) kq_) ?_
      refine gs (fun _ k => XS.aloadN X4.here hx rfl (hb y d5_26) rfl rfl (XS.iloadN X4.here hx rfl (hb y d5_27) rfl k)) ?_
      show Gf p e below _ T4 m 28 #[vr a1, vi 1, vr a2, vi 1, vi 2, vi 1, vi c1] [(.int 1), (.ref a2)]
      refine gs (fun _ k => XS.iload X4.here hx rfl (hb y d5_28) rfl (XS.i2b X4.here hx rfl (hb y d5_30) rfl k)) ?_
      obtain ⟨zcl8, zAr8, zq8, zS8, zM8, zH8, zG8⟩ := id V4
      obtain ⟨T9, h9, X9, e9, W9, st9⟩ := stB X4 hx hZ e4 zAr8 (j := (1 : Int32)) (inb_of zS8 ⟨by decide, by decide⟩) (g := (mkF m 31 #[vr a1, vi 1, vr a2, vi 1, vi 2, vi 1, vi c1] [(.int (c1.toInt8.toInt32)), (.int 1), (.ref a2)])) rfl rfl (hb y d5_31)
      refine Gl.of st9 ?_
      have V9 : Arv Z h9 a2 kB .byte (2 : Int32) [(.int (nar .byte (c0.toInt8.toInt32))), (.int (nar .byte (c1.toInt8.toInt32)))] (.int 0) := Arv.set zAr8 zq8 zS8 zM8 zH8 zG8 (fits_nar_byte _) W9 1 rfl (Nat.le_of_ble_eq_true rfl)
      have vc10 := vc5.other W9 hne
      have N9 := Fr.snoc X9 N4 Ga2
      have O9 := O4.wr W9 Ga2
      have K9 := K4.wr W9 (Or.inl (List.mem_of_getElem? (i := 0) rfl))
      show Gf p e below _ T9 m 32 #[vr a1, vi 1, vr a2, vi 1, vi 2, vi 1, vi c1] []
      refine gs (fun _ k => XS.iinc X9.here hx rfl (hb y d5_32) rfl (l' := #[vr a1, vi 2, vr a2, vi 1, vi 2, vi 1, vi c1]) rfl (XS.iinc X9.here hx rfl (hb y d5_35) rfl (l' := #[vr a1, vi 2, vr a2, vi 2, vi 2, vi 1, vi c1]) rfl (XS.iinc X9.here hx rfl (hb y d5_38) rfl (l' := #[vr a1, vi 2, vr a2, vi 2, vi 2, vi 2, vi c1]) rfl (XS.goto X9.here hx rfl (pc0 := 41) (pc' := 3) rfl (hb y d5_41) (by decide) (by decide) (XS.iload X9.here hx rfl (hb y d5_3) rfl (XS.iload X9.here hx rfl (hb y d5_5) rfl k)))))) ?_
      show Gf p e below _ T9 m 7 #[vr a1, vi 2, vr a2, vi 2, vi 2, vi 2, vi c1] [(.int 2), (.int 2)]
      refine gs (fun _ k => XS.icmpYes X9.here hx rfl (pc0 := 7) (pc' := 44) rfl (hb y d5_7) rfl (flt (by decide : ¬ ((2 : Int32) < (2 : Int32)))).2.1 (by decide) (by decide) (XS.iload X9.here hx rfl (hb y d5_44) rfl k)) ?_
      exact Gl.retI X9 hx hlk hret (hb y d5_46) e9 (⟨_, _, rfl, N9, K9, V9, Or.inl ⟨rfl, rfl, hc20_2, hc20_7⟩⟩) (by decide) (by decide)
theorem rmC2 {l : Launch} {Z : State} {a0 : Array Value} (hw : HW Z a0) {h0 : Heap} (a1 : Addr) (kk1 kB : ClassId) (c0 c1 : Int32) (n0 : Nat) (hfb : Z.vm.findClass "[B" = some kB) (V1 : Arv Z h0 a1 kk1 .char (2 : Int32) [.int c0, .int c1] (.int 0)) (hr0 : rg c0) (hr1 : rg c1) (Sa : sSa Z) (Sh : sSh Z) (Sl : sSl Z) (O0 : Old Z n0 h0) : Con l Z my7 bc19 6 (some (.array .byte)) [] (ro 3 2 6 45) 2 6 #[(.ref a1), (.int 0), (.int 2)] h0 (fun v h L => ∃ r, v = some (.ref r) ∧ ((Arv Z h r kB .byte (2 : Int32) [.int (o8 c0), .int (o8 c1)] (.int 0) ∧ (¬ (255 : Int32) < c0 ∧ ¬ (255 : Int32) < c1)) ∨ Arv Z h r kB .byte (4 : Int32) [.int (oh c0), .int (ol c0), .int (oh c1), .int (ol c1)] (.int 0)) ∧ Keep h0 h [] ∧ Fr n0 L ∧ n0 ≤ r ∧ h0.size ≤ r) := by
  refine Con.intro (plainFor_of_name pn_0) ?_
  intro p e s m below meth c s₁ X0 hx y hml hZ hown hnm hret hlk e0 hs0
  refine gs (fun _ k => castTop (ef_7 m a1 (0 : Int32) (2 : Int32)) k) ?_
  have K0 := Keep.refl h0 []
  show Gf p e below _ s₁ m 0 #[vr a1, vi 0, vi 2, vu, vu, vu] []
  refine gs (fun _ k => XS.iloadN X0.here hx rfl (hb y d4_0) rfl k) ?_
  obtain ⟨T1, h1, k1, X1, e1, E1, A1, Ex1, st1⟩ := newPE (aty := .byte) X0 hx hZ (w21 hw) e0 (g := (mkF m 1 #[vr a1, vi 0, vi 2, vu, vu, vu] [(.int 2)])) rfl (hb y d4_1) rfl (by decide) (cap := 2) (by decide) (by decide) (by decide) (by decide) (ad := "[B") rfl
  have kq1 := own_fbn A1 Ex1 hfb
  rw [kq1] at A1
  obtain ⟨b1, g1⟩ : ∃ z, z = h0.size := ⟨_, rfl⟩
  rw [← g1] at A1 st1
  refine Gl.of st1 ?_
  have Gb1 : n0 ≤ b1 := Nat.le_trans (O0.1 ▸ O0.2.1) (Nat.le_of_eq g1.symm)
  have Jb1 : h0.size ≤ b1 := Nat.le_trans K0.1 (Nat.le_of_eq g1.symm)
  have ne_a1_b1 : a1 ≠ b1 := Nat.ne_of_lt (Nat.lt_of_lt_of_le V1.lt (Nat.le_of_eq g1.symm))
  have vc2 := V1.ext E1
  have O1 := O0.ext E1
  have K1 := K0.ext E1
  have V1 : Arv Z h1 b1 kB .byte (2 : Int32) [(.int 0), (.int 0)] (.int 0) := (Arv.new A1 (by decide)).pad (pad_rep [] (.int 0) 2)
  show Gf p e below _ T1 m 3 #[vr a1, vi 0, vi 2, vu, vu, vu] [(.ref b1)]
  refine gs (fun _ k => XS.astoreN X1.here hx rfl (hb y d4_3) rfl rfl (l' := #[vr a1, vi 0, vi 2, vr b1, vu, vu]) rfl (XS.aloadN X1.here hx rfl (hb y d4_4) rfl rfl (XS.iloadN X1.here hx rfl (hb y d4_5) rfl (XS.aloadN X1.here hx rfl (hb y d4_6) rfl rfl (XS.iconst X1.here hx rfl (hb y d4_7) (XS.iloadN X1.here hx rfl (hb y d4_8) rfl k)))))) ?_
  show Gf p e below _ T1 m 9 #[vr a1, vi 0, vi 2, vr b1, vu, vu] [(.int 2), (.int 0), (.ref b1), (.int 0), (.ref a1)]
  refine Gl.callS X1 hx hZ (y := my6) hown (w22 hw) (w23 hw) (w19 hw) (w24 hw) (desc_ne (by decide)) (rm := ro 0 0 0 0) (argsL := [(.ref a1), (.int 0), (.ref b1), (.int 0), (.int 2)]) (rest := []) (rmK2 hw a1 b1 kk1 kB c0 c1 n0 vc2 V1 ne_a1_b1 Gb1 O1) 0 (by decide) (by decide) (by decide) (by decide) e1 hml.symm pd_3 rfl rfl (Nat.le_of_eq rfl) (hb y d4_9) ?_
  intro v3 T3 L3 X3 hQ3
  obtain ⟨z3, vs3, rfl, Nq3, Kq3, Vq3, dj3⟩ := hQ3
  have N3 := Fr.app (Fr.nil n0) Nq3
  have vc4 := vc2.keep Kq3 (fun q => ne_a1_b1 (List.mem_singleton.mp q))
  have O3 := O1.keep Kq3 (allS Gb1 all0)
  have K3 := K1.trans Kq3 (by intro x hx'; cases List.mem_singleton.mp hx'; exact Or.inr Jb1)
  rcases dj3 with ⟨rfl, rfl, le3⟩ | ⟨rfl, hb3⟩ | ⟨rfl, hb3⟩
  · show Gf p e below _ T3 m 12 #[vr a1, vi 0, vi 2, vr b1, vu, vu] [(.int 2)]
    refine gs (fun _ k => XS.istore X3.here hx rfl (hb y d4_12) rfl (l' := #[vr a1, vi 0, vi 2, vr b1, vi 2, vu]) rfl (XS.iload X3.here hx rfl (hb y d4_14) rfl (XS.iloadN X3.here hx rfl (hb y d4_16) rfl (XS.icmpYes X3.here hx rfl (pc0 := 17) (pc' := 57) rfl (hb y d4_17) rfl (teq (by decide : (2 : Int32) = (2 : Int32))).1 (by decide) (by decide) (XS.aloadN X3.here hx rfl (hb y d4_57) rfl rfl k))))) ?_
    exact Gl.retR X3 hx hlk hret rfl rfl (hb y d4_58) rfl (⟨_, rfl, Or.inl ⟨Vq3, le3⟩, K3, N3, Gb1, Jb1⟩) (by decide) (by decide)
  · show Gf p e below _ T3 m 12 #[vr a1, vi 0, vi 2, vr b1, vu, vu] [(.int 0)]
    refine gs (fun _ k => XS.istore X3.here hx rfl (hb y d4_12) rfl (l' := #[vr a1, vi 0, vi 2, vr b1, vi 0, vu]) rfl (XS.iload X3.here hx rfl (hb y d4_14) rfl (XS.iloadN X3.here hx rfl (hb y d4_16) rfl (XS.icmpNo X3.here hx rfl (hb y d4_17) rfl (feq (by decide : ¬ ((0 : Int32) = (2 : Int32)))).1 (XS.aloadN X3.here hx rfl (hb y d4_20) rfl rfl (XS.iloadN X3.here hx rfl (hb y d4_21) rfl k)))))) ?_
    show Gf p e below _ T3 m 22 #[vr a1, vi 0, vi 2, vr b1, vi 0, vu] [(.int 0), (.ref a1)]
    refine gs (fun _ k => XS.iloadN X3.here hx rfl (hb y d4_22) rfl k) ?_
    refine Gl.callS X3 hx hZ (y := my4) hown (w135 hw) (w136 hw) (w19 hw) (w137 hw) (desc_ne (by decide)) (rm := ro 2 1 4 26) (argsL := [(.ref a1), (.int 0), (.int 2)]) (rest := []) (rmB2 hw a1 kk1 kB c0 c1 n0 hfb vc4 Sa Sh Sl O3) 0 (by decide) (by decide) (by decide) (by decide) rfl hml.symm pd_4 rfl rfl (Nat.le_of_eq rfl) (hb y d4_23) ?_
    intro v5 T5 L5 X5 hQ5
    obtain ⟨r5, rfl, Vq5, Kq5, Nq5, Gr5, H5⟩ := hQ5
    have N5 := Fr.app N3 Nq5
    have ne_a1_r5 : a1 ≠ r5 := Nat.ne_of_lt (Nat.lt_of_lt_of_le vc4.lt H5)
    have ne_b1_r5 : b1 ≠ r5 := Nat.ne_of_lt (Nat.lt_of_lt_of_le Vq3.lt H5)
    have Jr5 : h0.size ≤ r5 := Nat.le_trans K3.1 H5
    have vc6 := vc4.keep Kq5 (by simp)
    have vc7 := Vq3.keep Kq5 (by simp)
    have O5 := O3.keep Kq5 all0
    have K5 := K3.trans Kq5 (by intro x hx'; exact nomatch hx')
    show Gf p e below _ T5 m 26 #[vr a1, vi 0, vi 2, vr b1, vi 0, vu] [(.ref r5)]
    refine gs (fun _ k => XS.astore X5.here hx rfl (hb y d4_26) rfl rfl (l' := #[vr a1, vi 0, vi 2, vr b1, vi 0, vr r5]) rfl (XS.aload X5.here hx rfl (hb y d4_28) rfl rfl (XS.iload X5.here hx rfl (hb y d4_30) rfl k))) ?_
    refine Gl.callS0 X5 hx hZ (y := my5) hown (w151 hw) (w152 hw) (w19 hw) (w153 hw) (desc_ne (by decide)) (argsL := [(.ref r5), (.int 0)]) (rest := []) (rmG20 hw r5 kB c0 c1 n0 Vq5 hr0 Sa Sh Sl O5) 0 (by decide) (by decide) rfl hml.symm pd_5 rfl rfl (Nat.le_of_eq rfl) (hb y d4_32) (by decide) (by decide) ?_
    intro v8 T8 X8 e8 hv8
    subst hv8
    show Gf p e below _ T8 m 35 #[vr a1, vi 0, vi 2, vr b1, vi 0, vr r5] [(.int c0)]
    refine gs (fun _ k => XS.sipush X8.here hx rfl (hb y d4_35) (XS.icmpYes X8.here hx rfl (pc0 := 38) (pc' := 54) rfl (hb y d4_38) rfl (tlt hb3).2.2.1 (by decide) (by decide) (XS.aload X8.here hx rfl (hb y d4_54) rfl rfl k))) ?_
    exact Gl.retR X8 hx hlk hret rfl rfl (hb y d4_56) e8 (⟨_, rfl, Or.inr Vq5, K5, N5, Gr5, Jr5⟩) (by decide) (by decide)
  · show Gf p e below _ T3 m 12 #[vr a1, vi 0, vi 2, vr b1, vu, vu] [(.int 1)]
    refine gs (fun _ k => XS.istore X3.here hx rfl (hb y d4_12) rfl (l' := #[vr a1, vi 0, vi 2, vr b1, vi 1, vu]) rfl (XS.iload X3.here hx rfl (hb y d4_14) rfl (XS.iloadN X3.here hx rfl (hb y d4_16) rfl (XS.icmpNo X3.here hx rfl (hb y d4_17) rfl (feq (by decide : ¬ ((1 : Int32) = (2 : Int32)))).1 (XS.aloadN X3.here hx rfl (hb y d4_20) rfl rfl (XS.iloadN X3.here hx rfl (hb y d4_21) rfl k)))))) ?_
    show Gf p e below _ T3 m 22 #[vr a1, vi 0, vi 2, vr b1, vi 1, vu] [(.int 0), (.ref a1)]
    refine gs (fun _ k => XS.iloadN X3.here hx rfl (hb y d4_22) rfl k) ?_
    refine Gl.callS X3 hx hZ (y := my4) hown (w135 hw) (w136 hw) (w19 hw) (w137 hw) (desc_ne (by decide)) (rm := ro 2 1 4 26) (argsL := [(.ref a1), (.int 0), (.int 2)]) (rest := []) (rmB2 hw a1 kk1 kB c0 c1 n0 hfb vc4 Sa Sh Sl O3) 0 (by decide) (by decide) (by decide) (by decide) rfl hml.symm pd_4 rfl rfl (Nat.le_of_eq rfl) (hb y d4_23) ?_
    intro v9 T9 L9 X9 hQ9
    obtain ⟨r9, rfl, Vq9, Kq9, Nq9, Gr9, H9⟩ := hQ9
    have N9 := Fr.app N3 Nq9
    have ne_a1_r9 : a1 ≠ r9 := Nat.ne_of_lt (Nat.lt_of_lt_of_le vc4.lt H9)
    have ne_b1_r9 : b1 ≠ r9 := Nat.ne_of_lt (Nat.lt_of_lt_of_le Vq3.lt H9)
    have Jr9 : h0.size ≤ r9 := Nat.le_trans K3.1 H9
    have vc10 := vc4.keep Kq9 (by simp)
    have vc11 := Vq3.keep Kq9 (by simp)
    have O9 := O3.keep Kq9 all0
    have K9 := K3.trans Kq9 (by intro x hx'; exact nomatch hx')
    show Gf p e below _ T9 m 26 #[vr a1, vi 0, vi 2, vr b1, vi 1, vu] [(.ref r9)]
    refine gs (fun _ k => XS.astore X9.here hx rfl (hb y d4_26) rfl rfl (l' := #[vr a1, vi 0, vi 2, vr b1, vi 1, vr r9]) rfl (XS.aload X9.here hx rfl (hb y d4_28) rfl rfl (XS.iload X9.here hx rfl (hb y d4_30) rfl k))) ?_
    refine Gl.callS0 X9 hx hZ (y := my5) hown (w151 hw) (w152 hw) (w19 hw) (w153 hw) (desc_ne (by decide)) (argsL := [(.ref r9), (.int 1)]) (rest := []) (rmG21 hw r9 kB c0 c1 n0 Vq9 hr1 Sa Sh Sl O9) 0 (by decide) (by decide) rfl hml.symm pd_5 rfl rfl (Nat.le_of_eq rfl) (hb y d4_32) (by decide) (by decide) ?_
    intro v12 T12 X12 e12 hv12
    subst hv12
    show Gf p e below _ T12 m 35 #[vr a1, vi 0, vi 2, vr b1, vi 1, vr r9] [(.int c1)]
    refine gs (fun _ k => XS.sipush X12.here hx rfl (hb y d4_35) (XS.icmpYes X12.here hx rfl (pc0 := 38) (pc' := 54) rfl (hb y d4_38) rfl (tlt hb3).2.2.1 (by decide) (by decide) (XS.aload X12.here hx rfl (hb y d4_54) rfl rfl k))) ?_
    exact Gl.retR X12 hx hlk hret rfl rfl (hb y d4_56) e12 (⟨_, rfl, Or.inr Vq9, K9, N9, Gr9, Jr9⟩) (by decide) (by decide)
theorem rmZ20 {l : Launch} {Z : State} {a0 : Array Value} (hw : HW Z a0) {h0 : Heap} (a1 : Addr) (kB : ClassId) (vs : List Value) (V1 : Arv Z h0 a1 kB .byte (2 : Int32) vs (.int 0)) : Con l Z my8 bc18 2 (some .byte) [] (ro 0 0 0 0) 0 0 #[(.ref a1), (.int 2)] h0 (Pur (fun v => v = some (.int 0)) h0) := by
  refine Con.intro (plainFor_of_name pn_0) ?_
  intro p e s m below meth c s₁ X0 hx y hml hZ hown hnm hret hlk e0 hs0
  refine gs (fun _ k => castTop (ef_8 m a1 (2 : Int32)) k) ?_
  show Gf p e below _ s₁ m 0 #[vr a1, vi 2] []
  refine gs (fun _ k => XS.iloadN X0.here hx rfl (hb y d6_0) rfl (XS.aloadN X0.here hx rfl (hb y d6_1) rfl rfl k)) ?_
  obtain ⟨zcl1, zAr1, zq1, zS1, zM1, zH1, zG1⟩ := id V1
  refine gs (fun _ k => X0.arraylength hx (by rw [e0]; exact (zAr1).1) (State.isArrayOf_alike hZ.alike (zAr1).2.1) (g := (mkF m 2 #[vr a1, vi 2] [(.ref a1), (.int 2)])) rfl rfl (hb y d6_2) _ k) ?_
  rw [len_of zS1 (by decide)]
  show Gf p e below _ s₁ m 3 #[vr a1, vi 2] [(.int 2), (.int 2)]
  refine gs (fun _ k => XS.isub X0.here hx rfl (hb y d6_3) rfl k) ?_
  show Gf p e below _ s₁ m 4 #[vr a1, vi 2] [(.int 0)]
  refine gs (fun _ k => XS.bipush X0.here hx rfl (hb y d6_4) (XS.iushr X0.here hx rfl (hb y d6_6) rfl (XS.i2b X0.here hx rfl (hb y d6_7) rfl k))) ?_
  exact Gl.retN X0 hx hlk hret (by simp) (hb y d6_8) e0 (⟨rfl, rfl, rfl⟩) (by decide) (by decide)
theorem rmZ21 {l : Launch} {Z : State} {a0 : Array Value} (hw : HW Z a0) {h0 : Heap} (a1 : Addr) (kB : ClassId) (vs : List Value) (V1 : Arv Z h0 a1 kB .byte (4 : Int32) vs (.int 0)) : Con l Z my8 bc18 2 (some .byte) [] (ro 0 0 0 0) 0 0 #[(.ref a1), (.int 2)] h0 (Pur (fun v => v = some (.int 1)) h0) := by
  refine Con.intro (plainFor_of_name pn_0) ?_
  intro p e s m below meth c s₁ X0 hx y hml hZ hown hnm hret hlk e0 hs0
  refine gs (fun _ k => castTop (ef_8 m a1 (2 : Int32)) k) ?_
  show Gf p e below _ s₁ m 0 #[vr a1, vi 2] []
  refine gs (fun _ k => XS.iloadN X0.here hx rfl (hb y d6_0) rfl (XS.aloadN X0.here hx rfl (hb y d6_1) rfl rfl k)) ?_
  obtain ⟨zcl1, zAr1, zq1, zS1, zM1, zH1, zG1⟩ := id V1
  refine gs (fun _ k => X0.arraylength hx (by rw [e0]; exact (zAr1).1) (State.isArrayOf_alike hZ.alike (zAr1).2.1) (g := (mkF m 2 #[vr a1, vi 2] [(.ref a1), (.int 2)])) rfl rfl (hb y d6_2) _ k) ?_
  rw [len_of zS1 (by decide)]
  show Gf p e below _ s₁ m 3 #[vr a1, vi 2] [(.int 4), (.int 2)]
  refine gs (fun _ k => XS.isub X0.here hx rfl (hb y d6_3) rfl k) ?_
  show Gf p e below _ s₁ m 4 #[vr a1, vi 2] [(.int (-2 : Int32))]
  refine gs (fun _ k => XS.bipush X0.here hx rfl (hb y d6_4) (XS.iushr X0.here hx rfl (hb y d6_6) rfl (XS.i2b X0.here hx rfl (hb y d6_7) rfl k))) ?_
  exact Gl.retN X0 hx hlk hret (by simp) (hb y d6_8) e0 (⟨rfl, rfl, rfl⟩) (by decide) (by decide)
theorem rmI2 {l : Launch} {Z : State} {a0 : Array Value} (hw : HW Z a0) {h0 : Heap} (b1 a1 : Addr) (kk1 kB : ClassId) (c0 c1 : Int32) (cz : Int32) (n0 : Nat) (hfb : Z.vm.findClass "[B" = some kB) (E1 : xS Z h0 b1) (Fv : Fld Z h0 b1 "java/lang/String" "value" "[B" .null) (Fc : fC Z h0 b1 0) (Gb1 : n0 ≤ b1) (V1 : Arv Z h0 a1 kk1 .char (2 : Int32) [.int c0, .int c1] (.int 0)) (hab : ¬ a1 = b1) (hr0 : rg c0) (hr1 : rg c1) (SC : sSC Z cz) (hcz : ¬ cz = 0) (Sa : sSa Z) (Sh : sSh Z) (Sl : sSl Z) (O0 : Old Z n0 h0) : Con l Z my9 bc4 6 none [] (ro 4 2 6 66) 2 6 #[(.ref b1), (.ref a1), (.int 0), (.int 2), .null] h0 (fun v h L => v = none ∧ Fr n0 L ∧ Keep h0 h [b1] ∧ ∃ t, fV Z h b1 t ∧ ((fC Z h b1 0 ∧ Arv Z h t kB .byte (2 : Int32) [.int (o8 c0), .int (o8 c1)] (.int 0) ∧ (¬ (255 : Int32) < c0 ∧ ¬ (255 : Int32) < c1)) ∨ (fC Z h b1 1 ∧ Arv Z h t kB .byte (4 : Int32) [.int (oh c0), .int (ol c0), .int (oh c1), .int (ol c1)] (.int 0)))) := by
  refine Con.intro (plainFor_of_name pn_1) ?_
  intro p e s m below meth c s₁ X0 hx y hml hZ hown hnm hret hlk e0 hs0
  refine gs (fun _ k => castTop (ef_9 m b1 a1 (0 : Int32) (2 : Int32) ) k) ?_
  have K0 := Keep.refl h0 [b1]
  show Gf p e below _ s₁ m 0 #[vr b1, vr a1, vi 0, vi 2, .val .null, vu] []
  refine gs (fun _ k => XS.aloadN X0.here hx rfl (hb y d2_0) rfl rfl k) ?_
  obtain ⟨T1, X1, e1, st1⟩ := initO X0 hx hZ hown (w13 hw) (w14 hw) (w15 hw) e0 (g := (mkF m 1 #[vr b1, vr a1, vi 0, vi 2, .val .null, vu] [(.ref b1)])) rfl hml.symm rfl (hb y d2_1) (by decide) (W := 0) (by show 2 * 0 + _ ≤ _; exact Nat.le_of_eq rfl) (by decide)
  refine Gl.of st1 ?_
  show Gf p e below _ T1 m 4 #[vr b1, vr a1, vi 0, vi 2, .val .null, vu] []
  refine gs (fun _ k => XS.iloadN X1.here hx rfl (hb y d2_4) rfl (XS.ifYes X1.here hx rfl (pc0 := 5) (pc' := 27) rfl (hb y d2_5) rfl ((if0 _ _).trans (feq (by decide : ¬ ((2 : Int32) = (0 : Int32)))).2) (by decide) (by decide) k)) ?_
  obtain ⟨T2, X2, e2, st2⟩ := getS2 X1 hx hZ hown (host := "") (Or.inl (w16 hw)) Via.refl e1 (SC.ext O0.2) (g := (mkF m 27 #[vr b1, vr a1, vi 0, vi 2, .val .null, vu] [])) rfl (hb y d2_27)
  refine Gl.of st2 ?_
  show Gf p e below _ T2 m 30 #[vr b1, vr a1, vi 0, vi 2, .val .null, vu] [(.int cz)]
  refine gs (fun _ k => XS.ifNo X2.here hx rfl (hb y d2_30) rfl ((if0 _ _).trans (feq hcz).1) (XS.aloadN X2.here hx rfl (hb y d2_33) rfl rfl (XS.iloadN X2.here hx rfl (hb y d2_34) rfl (XS.iloadN X2.here hx rfl (hb y d2_35) rfl k)))) ?_
  refine Gl.callS X2 hx hZ (y := my7) hown (w17 hw) (w18 hw) (w19 hw) (w20 hw) (desc_ne (by decide)) (rm := ro 3 2 6 45) (argsL := [(.ref a1), (.int 0), (.int 2)]) (rest := []) (rmC2 hw a1 kk1 kB c0 c1 n0 hfb V1 hr0 hr1 Sa Sh Sl O0) 0 (by decide) (by decide) (by decide) (by decide) e2 hml.symm pd_4 rfl rfl (Nat.le_of_eq rfl) (hb y d2_36) ?_
  intro v3 T3 L3 X3 hQ3
  obtain ⟨r3, rfl, dj3, Kq3, Nq3, Gr3, H3⟩ := hQ3
  have N3 := Fr.app (Fr.nil n0) Nq3
  have ne_a1_r3 : a1 ≠ r3 := Nat.ne_of_lt (Nat.lt_of_lt_of_le V1.lt H3)
  have ne_b1_r3 : b1 ≠ r3 := Nat.ne_of_lt (Nat.lt_of_lt_of_le E1.lt H3)
  have Jr3 : h0.size ≤ r3 := Nat.le_trans K0.1 H3
  have vc4 := V1.keep Kq3 (by simp)
  have ec5 := E1.keep Kq3
  have fc6 := Fv.keep Kq3 (by simp)
  have fc7 := Fc.keep Kq3 (by simp)
  have O3 := O0.keep Kq3 all0
  have K3 := K0.trans Kq3 (by intro x hx'; exact nomatch hx')
  rcases dj3 with ⟨Vq3, le3⟩ | Vq3
  · show Gf p e below _ T3 m 39 #[vr b1, vr a1, vi 0, vi 2, .val .null, vu] [(.ref r3)]
    refine gs (fun _ k => XS.astore X3.here hx rfl (hb y d2_39) rfl rfl (l' := #[vr b1, vr a1, vi 0, vi 2, .val .null, vr r3]) rfl (XS.aloadN X3.here hx rfl (hb y d2_41) rfl rfl (XS.aload X3.here hx rfl (hb y d2_42) rfl rfl (XS.iloadN X3.here hx rfl (hb y d2_44) rfl k)))) ?_
    refine Gl.callS0 X3 hx hZ (y := my8) hown (w25 hw) (w26 hw) (w19 hw) (w27 hw) (desc_ne (by decide)) (argsL := [(.ref r3), (.int 2)]) (rest := [(.ref b1)]) (rmZ20 hw r3 kB _ Vq3) 1 (by decide) (by decide) rfl hml.symm pd_6 rfl rfl (Nat.le_of_eq rfl) (hb y d2_45) (by decide) (by decide) ?_
    intro v8 T8 X8 e8 hv8
    subst hv8
    show Gf p e below _ T8 m 48 #[vr b1, vr a1, vi 0, vi 2, .val .null, vr r3] [(.int 0), (.ref b1)]
    obtain ⟨T9, h9, X9, e9, W9, st9⟩ := putFN X8 hx hZ hown (w28 hw) Via.refl e8 fc7 ec5 (Or.inr ⟨(w29 hw), rfl, hnm⟩) (w3 hw) (ty := .byte) (v' := (.int (nar .byte (0 : Int32)))) (by decide) rfl (fits_nar_byte _) (g := (mkF m 48 #[vr b1, vr a1, vi 0, vi 2, .val .null, vr r3] [(.int 0), (.ref b1)])) rfl rfl (hb y d2_48)
    refine Gl.of st9 ?_
    have F9 : Fld Z h9 b1 "java/lang/String" "coder" "B" (.int (nar .byte (0 : Int32))) := fc7.same W9
    have vc10 := vc4.other W9 hab
    have ec11 := ec5.wr W9
    have fc12 := fc6.other W9 (Or.inr (slot_ne (Or.inr (w31 hw)) (Or.inr (w29 hw)) (by decide) (t := (.array .byte)) (t' := .byte) (by decide) (by decide)))
    have vc13 := Vq3.other W9 ne_b1_r3.symm
    have N9 := Fr.snoc X9 N3 Gb1
    have O9 := O3.wr W9 Gb1
    have K9 := K3.wr W9 (Or.inl (List.mem_of_getElem? (i := 0) rfl))
    show Gf p e below _ T9 m 51 #[vr b1, vr a1, vi 0, vi 2, .val .null, vr r3] []
    refine gs (fun _ k => XS.aloadN X9.here hx rfl (hb y d2_51) rfl rfl (XS.aload X9.here hx rfl (hb y d2_52) rfl rfl k)) ?_
    obtain ⟨T14, h14, X14, e14, W14, st14⟩ := putF X9 hx hZ hown (host := "") (Or.inl (w30 hw)) Via.refl e9 fc12 ec11 (Or.inr ⟨(w31 hw), rfl, hnm⟩) (w3 hw) (ty := (.array .byte)) (by decide) rfl rfl (g := (mkF m 54 #[vr b1, vr a1, vi 0, vi 2, .val .null, vr r3] [(.ref r3), (.ref b1)])) rfl rfl (hb y d2_54)
    refine Gl.of st14 ?_
    have F14 : fV Z h14 b1 r3 := fc12.same W14
    have vc15 := vc10.other W14 hab
    have ec16 := ec11.wr W14
    have vc17 := vc13.other W14 ne_b1_r3.symm
    have fc18 := F9.other W14 (Or.inr (slot_ne (Or.inr (w29 hw)) (Or.inr (w31 hw)) (by decide) (t := .byte) (t' := (.array .byte)) (by decide) (by decide)))
    have N14 := Fr.snoc X14 N9 Gb1
    have O14 := O9.wr W14 Gb1
    have K14 := K9.wr W14 (Or.inl (List.mem_of_getElem? (i := 0) rfl))
    show Gf p e below _ T14 m 57 #[vr b1, vr a1, vi 0, vi 2, .val .null, vr r3] []
    exact Gl.ret0 X14 hx hlk hret (hb y d2_57) e14 (⟨rfl, N14, K14, _, F14, Or.inl ⟨fc18, vc17, le3⟩⟩) (by decide) (by decide)
  · show Gf p e below _ T3 m 39 #[vr b1, vr a1, vi 0, vi 2, .val .null, vu] [(.ref r3)]
    refine gs (fun _ k => XS.astore X3.here hx rfl (hb y d2_39) rfl rfl (l' := #[vr b1, vr a1, vi 0, vi 2, .val .null, vr r3]) rfl (XS.aloadN X3.here hx rfl (hb y d2_41) rfl rfl (XS.aload X3.here hx rfl (hb y d2_42) rfl rfl (XS.iloadN X3.here hx rfl (hb y d2_44) rfl k)))) ?_
    refine Gl.callS0 X3 hx hZ (y := my8) hown (w25 hw) (w26 hw) (w19 hw) (w27 hw) (desc_ne (by decide)) (argsL := [(.ref r3), (.int 2)]) (rest := [(.ref b1)]) (rmZ21 hw r3 kB _ Vq3) 1 (by decide) (by decide) rfl hml.symm pd_6 rfl rfl (Nat.le_of_eq rfl) (hb y d2_45) (by decide) (by decide) ?_
    intro v19 T19 X19 e19 hv19
    subst hv19
    show Gf p e below _ T19 m 48 #[vr b1, vr a1, vi 0, vi 2, .val .null, vr r3] [(.int 1), (.ref b1)]
    obtain ⟨T20, h20, X20, e20, W20, st20⟩ := putFN X19 hx hZ hown (w28 hw) Via.refl e19 fc7 ec5 (Or.inr ⟨(w29 hw), rfl, hnm⟩) (w3 hw) (ty := .byte) (v' := (.int (nar .byte (1 : Int32)))) (by decide) rfl (fits_nar_byte _) (g := (mkF m 48 #[vr b1, vr a1, vi 0, vi 2, .val .null, vr r3] [(.int 1), (.ref b1)])) rfl rfl (hb y d2_48)
    refine Gl.of st20 ?_
    have F20 : Fld Z h20 b1 "java/lang/String" "coder" "B" (.int (nar .byte (1 : Int32))) := fc7.same W20
    have vc21 := vc4.other W20 hab
    have ec22 := ec5.wr W20
    have fc23 := fc6.other W20 (Or.inr (slot_ne (Or.inr (w31 hw)) (Or.inr (w29 hw)) (by decide) (t := (.array .byte)) (t' := .byte) (by decide) (by decide)))
    have vc24 := Vq3.other W20 ne_b1_r3.symm
    have N20 := Fr.snoc X20 N3 Gb1
    have O20 := O3.wr W20 Gb1
    have K20 := K3.wr W20 (Or.inl (List.mem_of_getElem? (i := 0) rfl))
    show Gf p e below _ T20 m 51 #[vr b1, vr a1, vi 0, vi 2, .val .null, vr r3] []
    refine gs (fun _ k => XS.aloadN X20.here hx rfl (hb y d2_51) rfl rfl (XS.aload X20.here hx rfl (hb y d2_52) rfl rfl k)) ?_
    obtain ⟨T25, h25, X25, e25, W25, st25⟩ := putF X20 hx hZ hown (host := "") (Or.inl (w30 hw)) Via.refl e20 fc23 ec22 (Or.inr ⟨(w31 hw), rfl, hnm⟩) (w3 hw) (ty := (.array .byte)) (by decide) rfl rfl (g := (mkF m 54 #[vr b1, vr a1, vi 0, vi 2, .val .null, vr r3] [(.ref r3), (.ref b1)])) rfl rfl (hb y d2_54)
    refine Gl.of st25 ?_
    have F25 : fV Z h25 b1 r3 := fc23.same W25
    have vc26 := vc21.other W25 hab
    have ec27 := ec22.wr W25
    have vc28 := vc24.other W25 ne_b1_r3.symm
    have fc29 := F20.other W25 (Or.inr (slot_ne (Or.inr (w29 hw)) (Or.inr (w31 hw)) (by decide) (t := .byte) (t' := (.array .byte)) (by decide) (by decide)))
    have N25 := Fr.snoc X25 N20 Gb1
    have O25 := O20.wr W25 Gb1
    have K25 := K20.wr W25 (Or.inl (List.mem_of_getElem? (i := 0) rfl))
    show Gf p e below _ T25 m 57 #[vr b1, vr a1, vi 0, vi 2, .val .null, vr r3] []
    exact Gl.ret0 X25 hx hlk hret (hb y d2_57) e25 (⟨rfl, N25, K25, _, F25, Or.inr ⟨fc29, vc28⟩⟩) (by decide) (by decide)
theorem rmJ2 {l : Launch} {Z : State} {a0 : Array Value} (hw : HW Z a0) {h0 : Heap} (b1 a1 : Addr) (kk1 kB : ClassId) (c0 c1 : Int32) (cz : Int32) (n0 : Nat) (hfb : Z.vm.findClass "[B" = some kB) (E1 : xS Z h0 b1) (Fv : Fld Z h0 b1 "java/lang/String" "value" "[B" .null) (Fc : fC Z h0 b1 0) (Gb1 : n0 ≤ b1) (V1 : Arv Z h0 a1 kk1 .char (2 : Int32) [.int c0, .int c1] (.int 0)) (hab : ¬ a1 = b1) (hr0 : rg c0) (hr1 : rg c1) (SC : sSC Z cz) (hcz : ¬ cz = 0) (Sa : sSa Z) (Sh : sSh Z) (Sl : sSl Z) (O0 : Old Z n0 h0) : Con l Z my10 bc11 2 none [] (ro 5 2 6 84) 2 6 #[(.ref b1), (.ref a1)] h0 (fun v h L => v = none ∧ Fr n0 L ∧ Keep h0 h [b1] ∧ ∃ t, fV Z h b1 t ∧ ((fC Z h b1 0 ∧ Arv Z h t kB .byte (2 : Int32) [.int (o8 c0), .int (o8 c1)] (.int 0) ∧ (¬ (255 : Int32) < c0 ∧ ¬ (255 : Int32) < c1)) ∨ (fC Z h b1 1 ∧ Arv Z h t kB .byte (4 : Int32) [.int (oh c0), .int (ol c0), .int (oh c1), .int (ol c1)] (.int 0)))) := by
  refine Con.intro (plainFor_of_name pn_1) ?_
  intro p e s m below meth c s₁ X0 hx y hml hZ hown hnm hret hlk e0 hs0
  refine gs (fun _ k => castTop (ef_10 m b1 a1) k) ?_
  have K0 := Keep.refl h0 [b1]
  show Gf p e below _ s₁ m 0 #[vr b1, vr a1] []
  refine gs (fun _ k => XS.aloadN X0.here hx rfl (hb y d1_0) rfl rfl (XS.aloadN X0.here hx rfl (hb y d1_1) rfl rfl (XS.iconst X0.here hx rfl (hb y d1_2) (XS.aloadN X0.here hx rfl (hb y d1_3) rfl rfl k)))) ?_
  obtain ⟨zcl1, zAr1, zq1, zS1, zM1, zH1, zG1⟩ := id V1
  refine gs (fun _ k => X0.arraylength hx (by rw [e0]; exact (zAr1).1) (State.isArrayOf_alike hZ.alike (zAr1).2.1) (g := (mkF m 4 #[vr b1, vr a1] [(.ref a1), (.int 0), (.ref a1), (.ref b1)])) rfl rfl (hb y d1_4) _ k) ?_
  rw [len_of zS1 (by decide)]
  show Gf p e below _ s₁ m 5 #[vr b1, vr a1] [(.int 2), (.int 0), (.ref a1), (.ref b1)]
  refine gs (fun _ k => XS.aconstNull X0.here hx rfl (hb y d1_5) k) ?_
  refine Gl.callI X0 hx hZ (y := my9) rfl hown (w9 hw) (w10 hw) (w4 hw) (w12 hw) (desc_ne (by decide)) (rm := ro 4 2 6 66) (b := b1) (argsL := [(.ref a1), (.int 0), (.int 2), .null]) (rest := []) (rmI2 hw b1 a1 kk1 kB c0 c1 cz n0 hfb E1 Fv Fc Gb1 V1 hab hr0 hr1 SC hcz Sa Sh Sl O0) 0 (by decide) (by decide) (by decide) (by decide) e0 hml.symm pd_7 rfl rfl (Nat.le_of_eq rfl) (hb y d1_6) ?_
  intro v2 T2 L2 X2 hQ2
  obtain ⟨rfl, Nq2, Kq2, ex2⟩ := hQ2
  have N2 := Fr.app (Fr.nil n0) Nq2
  have vc3 := V1.keep Kq2 (fun q => hab (List.mem_singleton.mp q))
  have ec4 := E1.keep Kq2
  have O2 := O0.keep Kq2 (allS Gb1 all0)
  have K2 := K0.trans Kq2 (by intro x hx'; cases List.mem_singleton.mp hx'; exact Or.inl (List.mem_of_getElem? (i := 0) rfl))
  show Gf p e below _ T2 m 9 #[vr b1, vr a1] []
  exact Gl.ret0 X2 hx hlk hret (hb y d1_9) rfl (⟨rfl, N2, K2, ex2⟩) (by decide) (by decide)
theorem rmL3 {l : Launch} {Z : State} {a0 : Array Value} (hw : HW Z a0) {h0 : Heap} : Con l Z my2 bc24 1 (some .int) [] (ro 0 0 0 0) 0 0 #[(.int 3)] h0 (Pur (fun v => v = some (.int 6)) h0) := by
  refine Con.intro (plainFor_of_name pn_0) ?_
  intro p e s m below meth c s₁ X0 hx y hml hZ hown hnm hret hlk e0 hs0
  refine gs (fun _ k => castTop (ef_2 m (3 : Int32)) k) ?_
  show Gf p e below _ s₁ m 0 #[vi 3] []
  refine gs (fun _ k => XS.iloadN X0.here hx rfl (hb y d28_0) rfl (XS.ifYes X0.here hx rfl (pc0 := 1) (pc' := 12) rfl (hb y d28_1) rfl ((if0 _ _).trans (flt (by decide : ¬ ((3 : Int32) < (0 : Int32)))).2.1) (by decide) (by decide) (XS.iloadN X0.here hx rfl (hb y d28_12) rfl (X0.ldcInt hx hown (mvT hZ (w144 hw)) (g := (mkF m 13 #[vi 3] [(.int 3)])) rfl (hb y d28_13) _ (XS.icmpYes X0.here hx rfl (pc0 := 15) (pc' := 55) rfl (hb y d28_15) rfl (tlt (by decide : (3 : Int32) < (1073741823 : Int32))).1 (by decide) (by decide) (XS.iloadN X0.here hx rfl (hb y d28_55) rfl k)))))) ?_
  show Gf p e below _ s₁ m 56 #[vi 3] [(.int 3)]
  refine gs (fun _ k => XS.iconst X0.here hx rfl (hb y d28_56) (XS.ishl X0.here hx rfl (hb y d28_57) rfl k)) ?_
  show Gf p e below _ s₁ m 58 #[vi 3] [(.int 6)]
  exact Gl.retI X0 hx hlk hret (hb y d28_58) e0 (⟨rfl, rfl, rfl⟩) (by decide) (by decide)
theorem rmF3 {l : Launch} {Z : State} {a0 : Array Value} (hw : HW Z a0) {h0 : Heap} (kB : ClassId) (n0 : Nat) (hfb : Z.vm.findClass "[B" = some kB) (O0 : Old Z n0 h0) : Con l Z my3 bc23 1 (some (.array .byte)) [] (ro 1 1 6 13) 1 6 #[(.int 3)] h0 (fun v h L => ∃ r, v = some (.ref r) ∧ Arv Z h r kB .byte (6 : Int32) [.int (0 : Int32), .int (0 : Int32), .int (0 : Int32), .int (0 : Int32), .int (0 : Int32), .int (0 : Int32)] (.int 0) ∧ Keep h0 h [] ∧ Fr n0 L ∧ n0 ≤ r ∧ h0.size ≤ r) := by
  refine Con.intro (plainFor_of_name pn_0) ?_
  intro p e s m below meth c s₁ X0 hx y hml hZ hown hnm hret hlk e0 hs0
  refine gs (fun _ k => castTop (ef_3 m (3 : Int32)) k) ?_
  have K0 := Keep.refl h0 []
  show Gf p e below _ s₁ m 0 #[vi 3] []
  refine gs (fun _ k => XS.iloadN X0.here hx rfl (hb y d27_0) rfl k) ?_
  refine Gl.callS0 X0 hx hZ (y := my2) hown (w141 hw) (w142 hw) (w19 hw) (w143 hw) (desc_ne (by decide)) (argsL := [(.int 3)]) (rest := []) (rmL3 hw) 0 (by decide) (by decide) e0 hml.symm pd_0 rfl rfl (Nat.le_of_eq rfl) (hb y d27_1) (by decide) (by decide) ?_
  intro v1 T1 X1 e1 hv1
  subst hv1
  show Gf p e below _ T1 m 4 #[vi 3] [(.int 6)]
  obtain ⟨T2, h2, k2, X2, e2, E2, A2, Ex2, st2⟩ := newPE (aty := .byte) X1 hx hZ (w21 hw) e1 (g := (mkF m 4 #[vi 3] [(.int 6)])) rfl (hb y d27_4) rfl (by decide) (cap := 6) (by decide) (by decide) (by decide) (by decide) (ad := "[B") rfl
  have kq2 := own_fbn A2 Ex2 hfb
  rw [kq2] at A2
  obtain ⟨b2, g2⟩ : ∃ z, z = h0.size := ⟨_, rfl⟩
  rw [← g2] at A2 st2
  refine Gl.of st2 ?_
  have Gb2 : n0 ≤ b2 := Nat.le_trans (O0.1 ▸ O0.2.1) (Nat.le_of_eq g2.symm)
  have Jb2 : h0.size ≤ b2 := Nat.le_trans K0.1 (Nat.le_of_eq g2.symm)
  have O2 := O0.ext E2
  have K2 := K0.ext E2
  have V2 : Arv Z h2 b2 kB .byte (6 : Int32) [(.int 0), (.int 0), (.int 0), (.int 0), (.int 0), (.int 0)] (.int 0) := (Arv.new A2 (by decide)).pad (pad_rep [] (.int 0) 6)
  show Gf p e below _ T2 m 6 #[vi 3] [(.ref b2)]
  exact Gl.retR X2 hx hlk hret rfl rfl (hb y d27_6) e2 (⟨_, rfl, V2, K2, (Fr.nil n0), Gb2, Jb2⟩) (by decide) (by decide)
theorem rmB3 {l : Launch} {Z : State} {a0 : Array Value} (hw : HW Z a0) {h0 : Heap} (a1 : Addr) (kk1 kB : ClassId) (c0 c1 c2 : Int32) (n0 : Nat) (hfb : Z.vm.findClass "[B" = some kB) (V1 : Arv Z h0 a1 kk1 .char (3 : Int32) [.int c0, .int c1, .int c2] (.int 0)) (Sa : sSa Z) (Sh : sSh Z) (Sl : sSl Z) (O0 : Old Z n0 h0) : Con l Z my4 bc17 5 (some (.array .byte)) [] (ro 2 1 6 26) 1 6 #[(.ref a1), (.int 0), (.int 3)] h0 (fun v h L => ∃ r, v = some (.ref r) ∧ Arv Z h r kB .byte (6 : Int32) [.int (oh c0), .int (ol c0), .int (oh c1), .int (ol c1), .int (oh c2), .int (ol c2)] (.int 0) ∧ Keep h0 h [] ∧ Fr n0 L ∧ n0 ≤ r ∧ h0.size ≤ r) := by
  refine Con.intro (plainFor_of_name pn_0) ?_
  intro p e s m below meth c s₁ X0 hx y hml hZ hown hnm hret hlk e0 hs0
  refine gs (fun _ k => castTop (ef_4 m a1 (0 : Int32) (3 : Int32)) k) ?_
  have K0 := Keep.refl h0 []
  show Gf p e below _ s₁ m 0 #[vr a1, vi 0, vi 3, vu, vu] []
  refine gs (fun _ k => XS.iloadN X0.here hx rfl (hb y d26_0) rfl k) ?_
  refine Gl.callS X0 hx hZ (y := my3) hown (w138 hw) (w139 hw) (w19 hw) (w140 hw) (desc_ne (by decide)) (rm := ro 1 1 6 13) (argsL := [(.int 3)]) (rest := []) (rmF3 hw kB n0 hfb O0) 0 (by decide) (by decide) (by decide) (by decide) e0 hml.symm pd_1 rfl rfl (Nat.le_of_eq rfl) (hb y d26_1) ?_
  intro v1 T1 L1 X1 hQ1
  obtain ⟨r1, rfl, Vq1, Kq1, Nq1, Gr1, H1⟩ := hQ1
  have N1 := Fr.app (Fr.nil n0) Nq1
  have ne_a1_r1 : a1 ≠ r1 := Nat.ne_of_lt (Nat.lt_of_lt_of_le V1.lt H1)
  have Jr1 : h0.size ≤ r1 := Nat.le_trans K0.1 H1
  have vc2 := V1.keep Kq1 (by simp)
  have O1 := O0.keep Kq1 all0
  have K1 := K0.trans Kq1 (by intro x hx'; exact nomatch hx')
  show Gf p e below _ T1 m 4 #[vr a1, vi 0, vi 3, vu, vu] [(.ref r1)]
  refine gs (fun _ k => XS.astoreN X1.here hx rfl (hb y d26_4) rfl rfl (l' := #[vr a1, vi 0, vi 3, vr r1, vu]) rfl (XS.iconst X1.here hx rfl (hb y d26_5) (XS.istore X1.here hx rfl (hb y d26_6) rfl (l' := #[vr a1, vi 0, vi 3, vr r1, vi 0]) rfl (XS.iload X1.here hx rfl (hb y d26_8) rfl (XS.iloadN X1.here hx rfl (hb y d26_10) rfl (XS.icmpNo X1.here hx rfl (hb y d26_11) rfl (tlt (by decide : (0 : Int32) < (3 : Int32))).2.1 k)))))) ?_
  show Gf p e below _ T1 m 14 #[vr a1, vi 0, vi 3, vr r1, vi 0] []
  refine gs (fun _ k => XS.aloadN X1.here hx rfl (hb y d26_14) rfl rfl (XS.iload X1.here hx rfl (hb y d26_15) rfl (XS.aloadN X1.here hx rfl (hb y d26_17) rfl rfl (XS.iloadN X1.here hx rfl (hb y d26_18) rfl k)))) ?_
  obtain ⟨zcl3, zAr3, zq3, zS3, zM3, zH3, zG3⟩ := id vc2
  refine gs (fun _ k => X1.caload hx (j := (0 : Int32)) (v := (.int c0)) (zAr3).1 (State.isArrayOf_alike hZ.alike (zAr3).2.1) (zAr3).2.2 (inb_of zS3 ⟨by decide, by decide⟩) (zH3 0 (by rw [zS3]; decide)) (g := (mkF m 19 #[vr a1, vi 0, vi 3, vr r1, vi 0] [(.int 0), (.ref a1), (.int 0), (.ref r1)])) rfl rfl (hb y d26_19) _ k) ?_
  show Gf p e below _ T1 m 20 #[vr a1, vi 0, vi 3, vr r1, vi 0] [(.int c0), (.int 0), (.ref r1)]
  refine Gl.callS X1 hx hZ (y := my1) hown (w145 hw) (w146 hw) (w19 hw) (w147 hw) (desc_ne (by decide)) (rm := ro 0 0 0 0) (argsL := [(.ref r1), (.int 0), (.int c0)]) (rest := []) (rmP60 hw r1 kB (0 : Int32) (0 : Int32) (0 : Int32) (0 : Int32) (0 : Int32) (0 : Int32) c0 n0 Vq1 Gr1 Sa Sh Sl O1) 0 (by decide) (by decide) (by decide) (by decide) rfl hml.symm pd_2 rfl rfl (Nat.le_of_eq rfl) (hb y d26_20) ?_
  intro v4 T4 L4 X4 hQ4
  obtain ⟨rfl, Nq4, Kq4, Vq4⟩ := hQ4
  have N4 := Fr.app N1 Nq4
  have vc5 := vc2.keep Kq4 (fun q => ne_a1_r1 (List.mem_singleton.mp q))
  have O4 := O1.keep Kq4 (allS Gr1 all0)
  have K4 := K1.trans Kq4 (by intro x hx'; cases List.mem_singleton.mp hx'; exact Or.inr Jr1)
  show Gf p e below _ T4 m 23 #[vr a1, vi 0, vi 3, vr r1, vi 0] []
  refine gs (fun _ k => XS.iinc X4.here hx rfl (hb y d26_23) rfl (l' := #[vr a1, vi 1, vi 3, vr r1, vi 0]) rfl (XS.iinc X4.here hx rfl (hb y d26_26) rfl (l' := #[vr a1, vi 1, vi 3, vr r1, vi 1]) rfl (XS.goto X4.here hx rfl (pc0 := 29) (pc' := 8) rfl (hb y d26_29) (by decide) (by decide) (XS.iload X4.here hx rfl (hb y d26_8) rfl (XS.iloadN X4.here hx rfl (hb y d26_10) rfl (XS.icmpNo X4.here hx rfl (hb y d26_11) rfl (tlt (by decide : (1 : Int32) < (3 : Int32))).2.1 k)))))) ?_
  show Gf p e below _ T4 m 14 #[vr a1, vi 1, vi 3, vr r1, vi 1] []
  refine gs (fun _ k => XS.aloadN X4.here hx rfl (hb y d26_14) rfl rfl (XS.iload X4.here hx rfl (hb y d26_15) rfl (XS.aloadN X4.here hx rfl (hb y d26_17) rfl rfl (XS.iloadN X4.here hx rfl (hb y d26_18) rfl k)))) ?_
  obtain ⟨zcl6, zAr6, zq6, zS6, zM6, zH6, zG6⟩ := id vc5
  refine gs (fun _ k => X4.caload hx (j := (1 : Int32)) (v := (.int c1)) (zAr6).1 (State.isArrayOf_alike hZ.alike (zAr6).2.1) (zAr6).2.2 (inb_of zS6 ⟨by decide, by decide⟩) (zH6 1 (by rw [zS6]; decide)) (g := (mkF m 19 #[vr a1, vi 1, vi 3, vr r1, vi 1] [(.int 1), (.ref a1), (.int 1), (.ref r1)])) rfl rfl (hb y d26_19) _ k) ?_
  show Gf p e below _ T4 m 20 #[vr a1, vi 1, vi 3, vr r1, vi 1] [(.int c1), (.int 1), (.ref r1)]
  refine Gl.callS X4 hx hZ (y := my1) hown (w145 hw) (w146 hw) (w19 hw) (w147 hw) (desc_ne (by decide)) (rm := ro 0 0 0 0) (argsL := [(.ref r1), (.int 1), (.int c1)]) (rest := []) (rmP61 hw r1 kB (oh c0) (ol c0) (0 : Int32) (0 : Int32) (0 : Int32) (0 : Int32) c1 n0 Vq4 Gr1 Sa Sh Sl O4) 0 (by decide) (by decide) (by decide) (by decide) rfl hml.symm pd_2 rfl rfl (Nat.le_of_eq rfl) (hb y d26_20) ?_
  intro v7 T7 L7 X7 hQ7
  obtain ⟨rfl, Nq7, Kq7, Vq7⟩ := hQ7
  have N7 := Fr.app N4 Nq7
  have vc8 := vc5.keep Kq7 (fun q => ne_a1_r1 (List.mem_singleton.mp q))
  have O7 := O4.keep Kq7 (allS Gr1 all0)
  have K7 := K4.trans Kq7 (by intro x hx'; cases List.mem_singleton.mp hx'; exact Or.inr Jr1)
  show Gf p e below _ T7 m 23 #[vr a1, vi 1, vi 3, vr r1, vi 1] []
  refine gs (fun _ k => XS.iinc X7.here hx rfl (hb y d26_23) rfl (l' := #[vr a1, vi 2, vi 3, vr r1, vi 1]) rfl (XS.iinc X7.here hx rfl (hb y d26_26) rfl (l' := #[vr a1, vi 2, vi 3, vr r1, vi 2]) rfl (XS.goto X7.here hx rfl (pc0 := 29) (pc' := 8) rfl (hb y d26_29) (by decide) (by decide) (XS.iload X7.here hx rfl (hb y d26_8) rfl (XS.iloadN X7.here hx rfl (hb y d26_10) rfl (XS.icmpNo X7.here hx rfl (hb y d26_11) rfl (tlt (by decide : (2 : Int32) < (3 : Int32))).2.1 k)))))) ?_
  show Gf p e below _ T7 m 14 #[vr a1, vi 2, vi 3, vr r1, vi 2] []
  refine gs (fun _ k => XS.aloadN X7.here hx rfl (hb y d26_14) rfl rfl (XS.iload X7.here hx rfl (hb y d26_15) rfl (XS.aloadN X7.here hx rfl (hb y d26_17) rfl rfl (XS.iloadN X7.here hx rfl (hb y d26_18) rfl k)))) ?_
  obtain ⟨zcl9, zAr9, zq9, zS9, zM9, zH9, zG9⟩ := id vc8
  refine gs (fun _ k => X7.caload hx (j := (2 : Int32)) (v := (.int c2)) (zAr9).1 (State.isArrayOf_alike hZ.alike (zAr9).2.1) (zAr9).2.2 (inb_of zS9 ⟨by decide, by decide⟩) (zH9 2 (by rw [zS9]; decide)) (g := (mkF m 19 #[vr a1, vi 2, vi 3, vr r1, vi 2] [(.int 2), (.ref a1), (.int 2), (.ref r1)])) rfl rfl (hb y d26_19) _ k) ?_
  show Gf p e below _ T7 m 20 #[vr a1, vi 2, vi 3, vr r1, vi 2] [(.int c2), (.int 2), (.ref r1)]
  refine Gl.callS X7 hx hZ (y := my1) hown (w145 hw) (w146 hw) (w19 hw) (w147 hw) (desc_ne (by decide)) (rm := ro 0 0 0 0) (argsL := [(.ref r1), (.int 2), (.int c2)]) (rest := []) (rmP62 hw r1 kB (oh c0) (ol c0) (oh c1) (ol c1) (0 : Int32) (0 : Int32) c2 n0 Vq7 Gr1 Sa Sh Sl O7) 0 (by decide) (by decide) (by decide) (by decide) rfl hml.symm pd_2 rfl rfl (Nat.le_of_eq rfl) (hb y d26_20) ?_
  intro v10 T10 L10 X10 hQ10
  obtain ⟨rfl, Nq10, Kq10, Vq10⟩ := hQ10
  have N10 := Fr.app N7 Nq10
  have vc11 := vc8.keep Kq10 (fun q => ne_a1_r1 (List.mem_singleton.mp q))
  have O10 := O7.keep Kq10 (allS Gr1 all0)
  have K10 := K7.trans Kq10 (by intro x hx'; cases List.mem_singleton.mp hx'; exact Or.inr Jr1)
  show Gf p e below _ T10 m 23 #[vr a1, vi 2, vi 3, vr r1, vi 2] []
  refine gs (fun _ k => XS.iinc X10.here hx rfl (hb y d26_23) rfl (l' := #[vr a1, vi 3, vi 3, vr r1, vi 2]) rfl (XS.iinc X10.here hx rfl (hb y d26_26) rfl (l' := #[vr a1, vi 3, vi 3, vr r1, vi 3]) rfl (XS.goto X10.here hx rfl (pc0 := 29) (pc' := 8) rfl (hb y d26_29) (by decide) (by decide) (XS.iload X10.here hx rfl (hb y d26_8) rfl (XS.iloadN X10.here hx rfl (hb y d26_10) rfl (XS.icmpYes X10.here hx rfl (pc0 := 11) (pc' := 32) rfl (hb y d26_11) rfl (flt (by decide : ¬ ((3 : Int32) < (3 : Int32)))).2.1 (by decide) (by decide) k)))))) ?_
  show Gf p e below _ T10 m 32 #[vr a1, vi 3, vi 3, vr r1, vi 3] []
  refine gs (fun _ k => XS.aloadN X10.here hx rfl (hb y d26_32) rfl rfl k) ?_
  exact Gl.retR X10 hx hlk hret rfl rfl (hb y d26_33) rfl (⟨_, rfl, Vq10, K10, N10, Gr1, Jr1⟩) (by decide) (by decide)
theorem rmG30 {l : Launch} {Z : State} {a0 : Array Value} (hw : HW Z a0) {h0 : Heap} (a1 : Addr) (kB : ClassId) (c0 c1 c2 : Int32) (n0 : Nat) (V1 : Arv Z h0 a1 kB .byte (6 : Int32) [.int (oh c0), .int (ol c0), .int (oh c1), .int (ol c1), .int (oh c2), .int (ol c2)] (.int 0)) (hr : rg c0) (Sa : sSa Z) (Sh : sSh Z) (Sl : sSl Z) (O0 : Old Z n0 h0) : Con l Z my5 bc26 2 (some .char) [] (ro 0 0 0 0) 0 0 #[(.ref a1), (.int 0)] h0 (Pur (fun v => v = some (.int c0)) h0) := by
  refine Con.intro (plainFor_of_name pn_0) ?_
  intro p e s m below meth c s₁ X0 hx y hml hZ hown hnm hret hlk e0 hs0
  refine gs (fun _ k => castTop (ef_5 m a1 (0 : Int32)) k) ?_
  show Gf p e below _ s₁ m 0 #[vr a1, vi 0] []
  obtain ⟨T1, X1, e1, st1⟩ := getS2 X0 hx hZ hown (host := "") (Or.inl (w148 hw)) Via.refl e0 (Sa.ext O0.2) (g := (mkF m 0 #[vr a1, vi 0] [])) rfl (hb y d30_0)
  refine Gl.of st1 ?_
  show Gf p e below _ T1 m 3 #[vr a1, vi 0] [(.int 1)]
  refine gs (fun _ k => XS.ifYes X1.here hx rfl (pc0 := 3) (pc' := 28) rfl (hb y d30_3) rfl ((if0 _ _).trans (feq (by decide : ¬ ((1 : Int32) = (0 : Int32)))).2) (by decide) (by decide) (XS.iloadN X1.here hx rfl (hb y d30_28) rfl (XS.iconst X1.here hx rfl (hb y d30_29) (XS.ishl X1.here hx rfl (hb y d30_30) rfl k)))) ?_
  show Gf p e below _ T1 m 31 #[vr a1, vi 0] [(.int 0)]
  refine gs (fun _ k => XS.istoreN X1.here hx rfl (hb y d30_31) rfl (l' := #[vr a1, vi 0]) rfl (XS.aloadN X1.here hx rfl (hb y d30_32) rfl rfl (XS.iloadN X1.here hx rfl (hb y d30_33) rfl (XS.iinc X1.here hx rfl (hb y d30_34) rfl (l' := #[vr a1, vi 1]) rfl k)))) ?_
  obtain ⟨zcl2, zAr2, zq2, zS2, zM2, zH2, zG2⟩ := id V1
  refine gs (fun _ k => X1.baloadBytes hx (j := (0 : Int32)) (v := (.int (oh c0))) (by rw [e1]; exact (zAr2).1) (State.isArrayOf_alike hZ.alike (zAr2).2.1) (zAr2).2.2 (inb_of zS2 ⟨by decide, by decide⟩) (zH2 0 (by rw [zS2]; decide)) (g := (mkF m 37 #[vr a1, vi 1] [(.int 0), (.ref a1)])) rfl rfl (hb y d30_37) _ k) ?_
  show Gf p e below _ T1 m 38 #[vr a1, vi 1] [(.int (oh c0))]
  refine gs (fun _ k => XS.sipush X1.here hx rfl (hb y d30_38) (XS.iand X1.here hx rfl (hb y d30_41) rfl k)) ?_
  obtain ⟨T3, X3, e3, st3⟩ := getS2 X1 hx hZ hown (host := "") (Or.inl (w149 hw)) Via.refl e1 (Sh.ext O0.2) (g := (mkF m 42 #[vr a1, vi 1] [(.int ((oh c0) &&& (255 : Int32)))])) rfl (hb y d30_42)
  refine Gl.of st3 ?_
  show Gf p e below _ T3 m 45 #[vr a1, vi 1] [(.int 0), (.int ((oh c0) &&& (255 : Int32)))]
  refine gs (fun _ k => XS.ishl X3.here hx rfl (hb y d30_45) rfl (XS.aloadN X3.here hx rfl (hb y d30_46) rfl rfl (XS.iloadN X3.here hx rfl (hb y d30_47) rfl k))) ?_
  obtain ⟨zcl4, zAr4, zq4, zS4, zM4, zH4, zG4⟩ := id V1
  refine gs (fun _ k => X3.baloadBytes hx (j := (1 : Int32)) (v := (.int (ol c0))) (by rw [e3]; exact (zAr4).1) (State.isArrayOf_alike hZ.alike (zAr4).2.1) (zAr4).2.2 (inb_of zS4 ⟨by decide, by decide⟩) (zH4 1 (by rw [zS4]; decide)) (g := (mkF m 48 #[vr a1, vi 1] [(.int 1), (.ref a1), (.int (((oh c0) &&& (255 : Int32)) <<< ((0 : Int32) &&& 31)))])) rfl rfl (hb y d30_48) _ k) ?_
  show Gf p e below _ T3 m 49 #[vr a1, vi 1] [(.int (ol c0)), (.int (((oh c0) &&& (255 : Int32)) <<< ((0 : Int32) &&& 31)))]
  refine gs (fun _ k => XS.sipush X3.here hx rfl (hb y d30_49) (XS.iand X3.here hx rfl (hb y d30_52) rfl k)) ?_
  obtain ⟨T5, X5, e5, st5⟩ := getS2 X3 hx hZ hown (host := "") (Or.inl (w150 hw)) Via.refl e3 (Sl.ext O0.2) (g := (mkF m 53 #[vr a1, vi 1] [(.int ((ol c0) &&& (255 : Int32))), (.int (((oh c0) &&& (255 : Int32)) <<< ((0 : Int32) &&& 31)))])) rfl (hb y d30_53)
  refine Gl.of st5 ?_
  show Gf p e below _ T5 m 56 #[vr a1, vi 1] [(.int 8), (.int ((ol c0) &&& (255 : Int32))), (.int (((oh c0) &&& (255 : Int32)) <<< ((0 : Int32) &&& 31)))]
  refine gs (fun _ k => XS.ishl X5.here hx rfl (hb y d30_56) rfl (XS.ior X5.here hx rfl (hb y d30_57) rfl (XS.i2c X5.here hx rfl (hb y d30_58) rfl k))) ?_
  exact Gl.retN X5 hx hlk hret (by simp) (hb y d30_59) e5 (⟨congrArg (fun z => some (Value.int z)) (own_gch hr), rfl, rfl⟩) (by decide) (by decide)
theorem rmG31 {l : Launch} {Z : State} {a0 : Array Value} (hw : HW Z a0) {h0 : Heap} (a1 : Addr) (kB : ClassId) (c0 c1 c2 : Int32) (n0 : Nat) (V1 : Arv Z h0 a1 kB .byte (6 : Int32) [.int (oh c0), .int (ol c0), .int (oh c1), .int (ol c1), .int (oh c2), .int (ol c2)] (.int 0)) (hr : rg c1) (Sa : sSa Z) (Sh : sSh Z) (Sl : sSl Z) (O0 : Old Z n0 h0) : Con l Z my5 bc26 2 (some .char) [] (ro 0 0 0 0) 0 0 #[(.ref a1), (.int 1)] h0 (Pur (fun v => v = some (.int c1)) h0) := by
  refine Con.intro (plainFor_of_name pn_0) ?_
  intro p e s m below meth c s₁ X0 hx y hml hZ hown hnm hret hlk e0 hs0
  refine gs (fun _ k => castTop (ef_5 m a1 (1 : Int32)) k) ?_
  show Gf p e below _ s₁ m 0 #[vr a1, vi 1] []
  obtain ⟨T1, X1, e1, st1⟩ := getS2 X0 hx hZ hown (host := "") (Or.inl (w148 hw)) Via.refl e0 (Sa.ext O0.2) (g := (mkF m 0 #[vr a1, vi 1] [])) rfl (hb y d30_0)
  refine Gl.of st1 ?_
  show Gf p e below _ T1 m 3 #[vr a1, vi 1] [(.int 1)]
  refine gs (fun _ k => XS.ifYes X1.here hx rfl (pc0 := 3) (pc' := 28) rfl (hb y d30_3) rfl ((if0 _ _).trans (feq (by decide : ¬ ((1 : Int32) = (0 : Int32)))).2) (by decide) (by decide) (XS.iloadN X1.here hx rfl (hb y d30_28) rfl (XS.iconst X1.here hx rfl (hb y d30_29) (XS.ishl X1.here hx rfl (hb y d30_30) rfl k)))) ?_
  show Gf p e below _ T1 m 31 #[vr a1, vi 1] [(.int 2)]
  refine gs (fun _ k => XS.istoreN X1.here hx rfl (hb y d30_31) rfl (l' := #[vr a1, vi 2]) rfl (XS.aloadN X1.here hx rfl (hb y d30_32) rfl rfl (XS.iloadN X1.here hx rfl (hb y d30_33) rfl (XS.iinc X1.here hx rfl (hb y d30_34) rfl (l' := #[vr a1, vi 3]) rfl k)))) ?_
  obtain ⟨zcl2, zAr2, zq2, zS2, zM2, zH2, zG2⟩ := id V1
  refine gs (fun _ k => X1.baloadBytes hx (j := (2 : Int32)) (v := (.int (oh c1))) (by rw [e1]; exact (zAr2).1) (State.isArrayOf_alike hZ.alike (zAr2).2.1) (zAr2).2.2 (inb_of zS2 ⟨by decide, by decide⟩) (zH2 2 (by rw [zS2]; decide)) (g := (mkF m 37 #[vr a1, vi 3] [(.int 2), (.ref a1)])) rfl rfl (hb y d30_37) _ k) ?_
  show Gf p e below _ T1 m 38 #[vr a1, vi 3] [(.int (oh c1))]
  refine gs (fun _ k => XS.sipush X1.here hx rfl (hb y d30_38) (XS.iand X1.here hx rfl (hb y d30_41) rfl k)) ?_
  obtain ⟨T3, X3, e3, st3⟩ := getS2 X1 hx hZ hown (host := "") (Or.inl (w149 hw)) Via.refl e1 (Sh.ext O0.2) (g := (mkF m 42 #[vr a1, vi 3] [(.int ((oh c1) &&& (255 : Int32)))])) rfl (hb y d30_42)
  refine Gl.of st3 ?_
  show Gf p e below _ T3 m 45 #[vr a1, vi 3] [(.int 0), (.int ((oh c1) &&& (255 : Int32)))]
  refine gs (fun _ k => XS.ishl X3.here hx rfl (hb y d30_45) rfl (XS.aloadN X3.here hx rfl (hb y d30_46) rfl rfl (XS.iloadN X3.here hx rfl (hb y d30_47) rfl k))) ?_
  obtain ⟨zcl4, zAr4, zq4, zS4, zM4, zH4, zG4⟩ := id V1
  refine gs (fun _ k => X3.baloadBytes hx (j := (3 : Int32)) (v := (.int (ol c1))) (by rw [e3]; exact (zAr4).1) (State.isArrayOf_alike hZ.alike (zAr4).2.1) (zAr4).2.2 (inb_of zS4 ⟨by decide, by decide⟩) (zH4 3 (by rw [zS4]; decide)) (g := (mkF m 48 #[vr a1, vi 3] [(.int 3), (.ref a1), (.int (((oh c1) &&& (255 : Int32)) <<< ((0 : Int32) &&& 31)))])) rfl rfl (hb y d30_48) _ k) ?_
  show Gf p e below _ T3 m 49 #[vr a1, vi 3] [(.int (ol c1)), (.int (((oh c1) &&& (255 : Int32)) <<< ((0 : Int32) &&& 31)))]
  refine gs (fun _ k => XS.sipush X3.here hx rfl (hb y d30_49) (XS.iand X3.here hx rfl (hb y d30_52) rfl k)) ?_
  obtain ⟨T5, X5, e5, st5⟩ := getS2 X3 hx hZ hown (host := "") (Or.inl (w150 hw)) Via.refl e3 (Sl.ext O0.2) (g := (mkF m 53 #[vr a1, vi 3] [(.int ((ol c1) &&& (255 : Int32))), (.int (((oh c1) &&& (255 : Int32)) <<< ((0 : Int32) &&& 31)))])) rfl (hb y d30_53)
  refine Gl.of st5 ?_
  show Gf p e below _ T5 m 56 #[vr a1, vi 3] [(.int 8), (.int ((ol c1) &&& (255 : Int32))), (.int (((oh c1) &&& (255 : Int32)) <<< ((0 : Int32) &&& 31)))]
  refine gs (fun _ k => XS.ishl X5.here hx rfl (hb y d30_56) rfl (XS.ior X5.here hx rfl (hb y d30_57) rfl (XS.i2c X5.here hx rfl (hb y d30_58) rfl k))) ?_
  exact Gl.retN X5 hx hlk hret (by simp) (hb y d30_59) e5 (⟨congrArg (fun z => some (Value.int z)) (own_gch hr), rfl, rfl⟩) (by decide) (by decide)
theorem rmG32 {l : Launch} {Z : State} {a0 : Array Value} (hw : HW Z a0) {h0 : Heap} (a1 : Addr) (kB : ClassId) (c0 c1 c2 : Int32) (n0 : Nat) (V1 : Arv Z h0 a1 kB .byte (6 : Int32) [.int (oh c0), .int (ol c0), .int (oh c1), .int (ol c1), .int (oh c2), .int (ol c2)] (.int 0)) (hr : rg c2) (Sa : sSa Z) (Sh : sSh Z) (Sl : sSl Z) (O0 : Old Z n0 h0) : Con l Z my5 bc26 2 (some .char) [] (ro 0 0 0 0) 0 0 #[(.ref a1), (.int 2)] h0 (Pur (fun v => v = some (.int c2)) h0) := by
  refine Con.intro (plainFor_of_name pn_0) ?_
  intro p e s m below meth c s₁ X0 hx y hml hZ hown hnm hret hlk e0 hs0
  refine gs (fun _ k => castTop (ef_5 m a1 (2 : Int32)) k) ?_
  show Gf p e below _ s₁ m 0 #[vr a1, vi 2] []
  obtain ⟨T1, X1, e1, st1⟩ := getS2 X0 hx hZ hown (host := "") (Or.inl (w148 hw)) Via.refl e0 (Sa.ext O0.2) (g := (mkF m 0 #[vr a1, vi 2] [])) rfl (hb y d30_0)
  refine Gl.of st1 ?_
  show Gf p e below _ T1 m 3 #[vr a1, vi 2] [(.int 1)]
  refine gs (fun _ k => XS.ifYes X1.here hx rfl (pc0 := 3) (pc' := 28) rfl (hb y d30_3) rfl ((if0 _ _).trans (feq (by decide : ¬ ((1 : Int32) = (0 : Int32)))).2) (by decide) (by decide) (XS.iloadN X1.here hx rfl (hb y d30_28) rfl (XS.iconst X1.here hx rfl (hb y d30_29) (XS.ishl X1.here hx rfl (hb y d30_30) rfl k)))) ?_
  show Gf p e below _ T1 m 31 #[vr a1, vi 2] [(.int 4)]
  refine gs (fun _ k => XS.istoreN X1.here hx rfl (hb y d30_31) rfl (l' := #[vr a1, vi 4]) rfl (XS.aloadN X1.here hx rfl (hb y d30_32) rfl rfl (XS.iloadN X1.here hx rfl (hb y d30_33) rfl (XS.iinc X1.here hx rfl (hb y d30_34) rfl (l' := #[vr a1, vi 5]) rfl k)))) ?_
  obtain ⟨zcl2, zAr2, zq2, zS2, zM2, zH2, zG2⟩ := id V1
  refine gs (fun _ k => X1.baloadBytes hx (j := (4 : Int32)) (v := (.int (oh c2))) (by rw [e1]; exact (zAr2).1) (State.isArrayOf_alike hZ.alike (zAr2).2.1) (zAr2).2.2 (inb_of zS2 ⟨by decide, by decide⟩) (zH2 4 (by rw [zS2]; decide)) (g := (mkF m 37 #[vr a1, vi 5] [(.int 4), (.ref a1)])) rfl rfl (hb y d30_37) _ k) ?_
  show Gf p e below _ T1 m 38 #[vr a1, vi 5] [(.int (oh c2))]
  refine gs (fun _ k => XS.sipush X1.here hx rfl (hb y d30_38) (XS.iand X1.here hx rfl (hb y d30_41) rfl k)) ?_
  obtain ⟨T3, X3, e3, st3⟩ := getS2 X1 hx hZ hown (host := "") (Or.inl (w149 hw)) Via.refl e1 (Sh.ext O0.2) (g := (mkF m 42 #[vr a1, vi 5] [(.int ((oh c2) &&& (255 : Int32)))])) rfl (hb y d30_42)
  refine Gl.of st3 ?_
  show Gf p e below _ T3 m 45 #[vr a1, vi 5] [(.int 0), (.int ((oh c2) &&& (255 : Int32)))]
  refine gs (fun _ k => XS.ishl X3.here hx rfl (hb y d30_45) rfl (XS.aloadN X3.here hx rfl (hb y d30_46) rfl rfl (XS.iloadN X3.here hx rfl (hb y d30_47) rfl k))) ?_
  obtain ⟨zcl4, zAr4, zq4, zS4, zM4, zH4, zG4⟩ := id V1
  refine gs (fun _ k => X3.baloadBytes hx (j := (5 : Int32)) (v := (.int (ol c2))) (by rw [e3]; exact (zAr4).1) (State.isArrayOf_alike hZ.alike (zAr4).2.1) (zAr4).2.2 (inb_of zS4 ⟨by decide, by decide⟩) (zH4 5 (by rw [zS4]; decide)) (g := (mkF m 48 #[vr a1, vi 5] [(.int 5), (.ref a1), (.int (((oh c2) &&& (255 : Int32)) <<< ((0 : Int32) &&& 31)))])) rfl rfl (hb y d30_48) _ k) ?_
  show Gf p e below _ T3 m 49 #[vr a1, vi 5] [(.int (ol c2)), (.int (((oh c2) &&& (255 : Int32)) <<< ((0 : Int32) &&& 31)))]
  refine gs (fun _ k => XS.sipush X3.here hx rfl (hb y d30_49) (XS.iand X3.here hx rfl (hb y d30_52) rfl k)) ?_
  obtain ⟨T5, X5, e5, st5⟩ := getS2 X3 hx hZ hown (host := "") (Or.inl (w150 hw)) Via.refl e3 (Sl.ext O0.2) (g := (mkF m 53 #[vr a1, vi 5] [(.int ((ol c2) &&& (255 : Int32))), (.int (((oh c2) &&& (255 : Int32)) <<< ((0 : Int32) &&& 31)))])) rfl (hb y d30_53)
  refine Gl.of st5 ?_
  show Gf p e below _ T5 m 56 #[vr a1, vi 5] [(.int 8), (.int ((ol c2) &&& (255 : Int32))), (.int (((oh c2) &&& (255 : Int32)) <<< ((0 : Int32) &&& 31)))]
  refine gs (fun _ k => XS.ishl X5.here hx rfl (hb y d30_56) rfl (XS.ior X5.here hx rfl (hb y d30_57) rfl (XS.i2c X5.here hx rfl (hb y d30_58) rfl k))) ?_
  exact Gl.retN X5 hx hlk hret (by simp) (hb y d30_59) e5 (⟨congrArg (fun z => some (Value.int z)) (own_gch hr), rfl, rfl⟩) (by decide) (by decide)
theorem rmK3 {l : Launch} {Z : State} {a0 : Array Value} (hw : HW Z a0) {h0 : Heap} (a1 a2 : Addr) (kk1 kB : ClassId) (c0 c1 c2 : Int32) (n0 : Nat) (V1 : Arv Z h0 a1 kk1 .char (3 : Int32) [.int c0, .int c1, .int c2] (.int 0)) (V2 : Arv Z h0 a2 kB .byte (3 : Int32) [.int (0 : Int32), .int (0 : Int32), .int (0 : Int32)] (.int 0)) (hne : ¬ a1 = a2) (Ga2 : n0 ≤ a2) (O0 : Old Z n0 h0) : Con l Z my6 bc21 7 (some .int) [] (ro 0 0 0 0) 0 0 #[(.ref a1), (.int 0), (.ref a2), (.int 0), (.int 3)] h0 (fun v h L => ∃ r vs, v = some (.int r) ∧ Fr n0 L ∧ Keep h0 h [a2] ∧ Arv Z h a2 kB .byte (3 : Int32) vs (.int 0) ∧ ((r = (3 : Int32) ∧ vs = [.int (o8 c0), .int (o8 c1), .int (o8 c2)] ∧ (¬ (255 : Int32) < c0 ∧ ¬ (255 : Int32) < c1 ∧ ¬ (255 : Int32) < c2)) ∨ (r = (0 : Int32) ∧ (255 : Int32) < c0) ∨ (r = (1 : Int32) ∧ (255 : Int32) < c1) ∨ (r = (2 : Int32) ∧ (255 : Int32) < c2))) := by
  refine Con.intro (plainFor_of_name pn_0) ?_
  intro p e s m below meth c s₁ X0 hx y hml hZ hown hnm hret hlk e0 hs0
  refine gs (fun _ k => castTop (ef_6 m a1 (0 : Int32) a2 (0 : Int32) (3 : Int32)) k) ?_
  have K0 := Keep.refl h0 [a2]
  show Gf p e below _ s₁ m 0 #[vr a1, vi 0, vr a2, vi 0, vi 3, vu, vu] []
  refine gs (fun _ k => XS.iconst X0.here hx rfl (hb y d5_0) (XS.istore X0.here hx rfl (hb y d5_1) rfl (l' := #[vr a1, vi 0, vr a2, vi 0, vi 3, vi 0, vu]) rfl (XS.iload X0.here hx rfl (hb y d5_3) rfl (XS.iload X0.here hx rfl (hb y d5_5) rfl (XS.icmpNo X0.here hx rfl (hb y d5_7) rfl (tlt (by decide : (0 : Int32) < (3 : Int32))).2.1 (XS.aloadN X0.here hx rfl (hb y d5_10) rfl rfl k)))))) ?_
  show Gf p e below _ s₁ m 11 #[vr a1, vi 0, vr a2, vi 0, vi 3, vi 0, vu] [(.ref a1)]
  refine gs (fun _ k => XS.iloadN X0.here hx rfl (hb y d5_11) rfl k) ?_
  obtain ⟨zcl1, zAr1, zq1, zS1, zM1, zH1, zG1⟩ := id V1
  refine gs (fun _ k => X0.caload hx (j := (0 : Int32)) (v := (.int c0)) (by rw [e0]; exact (zAr1).1) (State.isArrayOf_alike hZ.alike (zAr1).2.1) (zAr1).2.2 (inb_of zS1 ⟨by decide, by decide⟩) (zH1 0 (by rw [zS1]; decide)) (g := (mkF m 12 #[vr a1, vi 0, vr a2, vi 0, vi 3, vi 0, vu] [(.int 0), (.ref a1)])) rfl rfl (hb y d5_12) _ k) ?_
  show Gf p e below _ s₁ m 13 #[vr a1, vi 0, vr a2, vi 0, vi 3, vi 0, vu] [(.int c0)]
  refine gs (fun _ k => XS.istore X0.here hx rfl (hb y d5_13) rfl (l' := #[vr a1, vi 0, vr a2, vi 0, vi 3, vi 0, vi c0]) rfl (XS.iload X0.here hx rfl (hb y d5_15) rfl (XS.sipush X0.here hx rfl (hb y d5_17) k))) ?_
  by_cases hc20_2 : (255 : Int32) < c0
  · refine Gl.of (fun _ kq_ => XS.icmpNo X0.here hx rfl (hb y d5_20) rfl (tlt hc20_2).2.2.2 kq_) ?_
    refine gs (fun _ k => XS.iload X0.here hx rfl (hb y d5_23) rfl k) ?_
    exact Gl.retI X0 hx hlk hret (hb y d5_25) e0 (⟨_, _, rfl, (Fr.nil n0), K0, V2, Or.inr (Or.inl ⟨rfl, hc20_2⟩)⟩) (by decide) (by decide)
  · refine Gl.of (fun _ kq_ => XS.icmpYes X0.here hx rfl (pc0 := 20) (pc' := 26) rfl (hb y d5_20) rfl (flt hc20_2).2.2.2 (by decide) (by decide) kq_) ?_
    refine gs (fun _ k => XS.aloadN X0.here hx rfl (hb y d5_26) rfl rfl (XS.iloadN X0.here hx rfl (hb y d5_27) rfl k)) ?_
    show Gf p e below _ s₁ m 28 #[vr a1, vi 0, vr a2, vi 0, vi 3, vi 0, vi c0] [(.int 0), (.ref a2)]
    refine gs (fun _ k => XS.iload X0.here hx rfl (hb y d5_28) rfl (XS.i2b X0.here hx rfl (hb y d5_30) rfl k)) ?_
    obtain ⟨zcl3, zAr3, zq3, zS3, zM3, zH3, zG3⟩ := id V2
    obtain ⟨T4, h4, X4, e4, W4, st4⟩ := stB X0 hx hZ e0 zAr3 (j := (0 : Int32)) (inb_of zS3 ⟨by decide, by decide⟩) (g := (mkF m 31 #[vr a1, vi 0, vr a2, vi 0, vi 3, vi 0, vi c0] [(.int (c0.toInt8.toInt32)), (.int 0), (.ref a2)])) rfl rfl (hb y d5_31)
    refine Gl.of st4 ?_
    have V4 : Arv Z h4 a2 kB .byte (3 : Int32) [(.int (nar .byte (c0.toInt8.toInt32))), (.int 0), (.int 0)] (.int 0) := Arv.set zAr3 zq3 zS3 zM3 zH3 zG3 (fits_nar_byte _) W4 0 rfl (Nat.le_of_ble_eq_true rfl)
    have vc5 := V1.other W4 hne
    have N4 := Fr.snoc X4 (Fr.nil n0) Ga2
    have O4 := O0.wr W4 Ga2
    have K4 := K0.wr W4 (Or.inl (List.mem_of_getElem? (i := 0) rfl))
    show Gf p e below _ T4 m 32 #[vr a1, vi 0, vr a2, vi 0, vi 3, vi 0, vi c0] []
    refine gs (fun _ k => XS.iinc X4.here hx rfl (hb y d5_32) rfl (l' := #[vr a1, vi 1, vr a2, vi 0, vi 3, vi 0, vi c0]) rfl (XS.iinc X4.here hx rfl (hb y d5_35) rfl (l' := #[vr a1, vi 1, vr a2, vi 1, vi 3, vi 0, vi c0]) rfl (XS.iinc X4.here hx rfl (hb y d5_38) rfl (l' := #[vr a1, vi 1, vr a2, vi 1, vi 3, vi 1, vi c0]) rfl (XS.goto X4.here hx rfl (pc0 := 41) (pc' := 3) rfl (hb y d5_41) (by decide) (by decide) (XS.iload X4.here hx rfl (hb y d5_3) rfl (XS.iload X4.here hx rfl (hb y d5_5) rfl k)))))) ?_
    show Gf p e below _ T4 m 7 #[vr a1, vi 1, vr a2, vi 1, vi 3, vi 1, vi c0] [(.int 3), (.int 1)]
    refine gs (fun _ k => XS.icmpNo X4.here hx rfl (hb y d5_7) rfl (tlt (by decide : (1 : Int32) < (3 : Int32))).2.1 (XS.aloadN X4.here hx rfl (hb y d5_10) rfl rfl (XS.iloadN X4.here hx rfl (hb y d5_11) rfl k))) ?_
    obtain ⟨zcl6, zAr6, zq6, zS6, zM6, zH6, zG6⟩ := id vc5
    refine gs (fun _ k => X4.caload hx (j := (1 : Int32)) (v := (.int c1)) (by rw [e4]; exact (zAr6).1) (State.isArrayOf_alike hZ.alike (zAr6).2.1) (zAr6).2.2 (inb_of zS6 ⟨by decide, by decide⟩) (zH6 1 (by rw [zS6]; decide)) (g := (mkF m 12 #[vr a1, vi 1, vr a2, vi 1, vi 3, vi 1, vi c0] [(.int 1), (.ref a1)])) rfl rfl (hb y d5_12) _ k) ?_
    show Gf p e below _ T4 m 13 #[vr a1, vi 1, vr a2, vi 1, vi 3, vi 1, vi c0] [(.int c1)]
    refine gs (fun _ k => XS.istore X4.here hx rfl (hb y d5_13) rfl (l' := #[vr a1, vi 1, vr a2, vi 1, vi 3, vi 1, vi c1]) rfl (XS.iload X4.here hx rfl (hb y d5_15) rfl (XS.sipush X4.here hx rfl (hb y d5_17) k))) ?_
    by_cases hc20_7 : (255 : Int32) < c1
    · refine Gl.of (fun _ kq_ => XS.icmpNo X4.here hx rfl (hb y d5_20) rfl (tlt hc20_7).2.2.2 kq_) ?_
      refine gs (fun _ k => XS.iload X4.here hx rfl (hb y d5_23) rfl k) ?_
      exact Gl.retI X4 hx hlk hret (hb y d5_25) e4 (⟨_, _, rfl, N4, K4, V4, Or.inr (Or.inr (Or.inl ⟨rfl, hc20_7⟩))⟩) (by decide) (by decide)
    · refine Gl.of (fun _ kq_ => XS.icmpYes X4.here hx rfl (pc0 := 20) (pc' := 26) rfl (hb y d5_20) rfl (flt hc20_7).2.2.2 (by decide) (by decide) kq_) ?_
      refine gs (fun _ k => XS.aloadN X4.here hx rfl (hb y d5_26) rfl rfl (XS.iloadN X4.here hx rfl (hb y d5_27) rfl k)) ?_
      show Gf p e below _ T4 m 28 #[vr a1, vi 1, vr a2, vi 1, vi 3, vi 1, vi c1] [(.int 1), (.ref a2)]
      refine gs (fun _ k => XS.iload X4.here hx rfl (hb y d5_28) rfl (XS.i2b X4.here hx rfl (hb y d5_30) rfl k)) ?_
      obtain ⟨zcl8, zAr8, zq8, zS8, zM8, zH8, zG8⟩ := id V4
      obtain ⟨T9, h9, X9, e9, W9, st9⟩ := stB X4 hx hZ e4 zAr8 (j := (1 : Int32)) (inb_of zS8 ⟨by decide, by decide⟩) (g := (mkF m 31 #[vr a1, vi 1, vr a2, vi 1, vi 3, vi 1, vi c1] [(.int (c1.toInt8.toInt32)), (.int 1), (.ref a2)])) rfl rfl (hb y d5_31)
      refine Gl.of st9 ?_
      have V9 : Arv Z h9 a2 kB .byte (3 : Int32) [(.int (nar .byte (c0.toInt8.toInt32))), (.int (nar .byte (c1.toInt8.toInt32))), (.int 0)] (.int 0) := Arv.set zAr8 zq8 zS8 zM8 zH8 zG8 (fits_nar_byte _) W9 1 rfl (Nat.le_of_ble_eq_true rfl)
      have vc10 := vc5.other W9 hne
      have N9 := Fr.snoc X9 N4 Ga2
      have O9 := O4.wr W9 Ga2
      have K9 := K4.wr W9 (Or.inl (List.mem_of_getElem? (i := 0) rfl))
      show Gf p e below _ T9 m 32 #[vr a1, vi 1, vr a2, vi 1, vi 3, vi 1, vi c1] []
      refine gs (fun _ k => XS.iinc X9.here hx rfl (hb y d5_32) rfl (l' := #[vr a1, vi 2, vr a2, vi 1, vi 3, vi 1, vi c1]) rfl (XS.iinc X9.here hx rfl (hb y d5_35) rfl (l' := #[vr a1, vi 2, vr a2, vi 2, vi 3, vi 1, vi c1]) rfl (XS.iinc X9.here hx rfl (hb y d5_38) rfl (l' := #[vr a1, vi 2, vr a2, vi 2, vi 3, vi 2, vi c1]) rfl (XS.goto X9.here hx rfl (pc0 := 41) (pc' := 3) rfl (hb y d5_41) (by decide) (by decide) (XS.iload X9.here hx rfl (hb y d5_3) rfl (XS.iload X9.here hx rfl (hb y d5_5) rfl k)))))) ?_
      show Gf p e below _ T9 m 7 #[vr a1, vi 2, vr a2, vi 2, vi 3, vi 2, vi c1] [(.int 3), (.int 2)]
      refine gs (fun _ k => XS.icmpNo X9.here hx rfl (hb y d5_7) rfl (tlt (by decide : (2 : Int32) < (3 : Int32))).2.1 (XS.aloadN X9.here hx rfl (hb y d5_10) rfl rfl (XS.iloadN X9.here hx rfl (hb y d5_11) rfl k))) ?_
      obtain ⟨zcl11, zAr11, zq11, zS11, zM11, zH11, zG11⟩ := id vc10
      refine gs (fun _ k => X9.caload hx (j := (2 : Int32)) (v := (.int c2)) (by rw [e9]; exact (zAr11).1) (State.isArrayOf_alike hZ.alike (zAr11).2.1) (zAr11).2.2 (inb_of zS11 ⟨by decide, by decide⟩) (zH11 2 (by rw [zS11]; decide)) (g := (mkF m 12 #[vr a1, vi 2, vr a2, vi 2, vi 3, vi 2, vi c1] [(.int 2), (.ref a1)])) rfl rfl (hb y d5_12) _ k) ?_
      show Gf p e below _ T9 m 13 #[vr a1, vi 2, vr a2, vi 2, vi 3, vi 2, vi c1] [(.int c2)]
      refine gs (fun _ k => XS.istore X9.here hx rfl (hb y d5_13) rfl (l' := #[vr a1, vi 2, vr a2, vi 2, vi 3, vi 2, vi c2]) rfl (XS.iload X9.here hx rfl (hb y d5_15) rfl (XS.sipush X9.here hx rfl (hb y d5_17) k))) ?_
      by_cases hc20_12 : (255 : Int32) < c2
      · refine Gl.of (fun _ kq_ => XS.icmpNo X9.here hx rfl (hb y d5_20) rfl (tlt hc20_12).2.2.2 kq_) ?_
        refine gs (fun _ k => XS.iload X9.here hx rfl (hb y d5_23) rfl k) ?_
        exact Gl.retI X9 hx hlk hret (hb y d5_25) e9 (⟨_, _, rfl, N9, K9, V9, Or.inr (Or.inr (Or.inr (⟨rfl, hc20_12⟩)))⟩) (by decide) (by decide)
      · refine Gl.of (fun _ kq_ => XS.icmpYes X9.here hx rfl (pc0 := 20) (pc' := 26) rfl (hb y d5_20) rfl (flt hc20_12).2.2.2 (by decide) (by decide) kq_) ?_
        refine gs (fun _ k => XS.aloadN X9.here hx rfl (hb y d5_26) rfl rfl (XS.iloadN X9.here hx rfl (hb y d5_27) rfl k)) ?_
        show Gf p e below _ T9 m 28 #[vr a1, vi 2, vr a2, vi 2, vi 3, vi 2, vi c2] [(.int 2), (.ref a2)]
        refine gs (fun _ k => XS.iload X9.here hx rfl (hb y d5_28) rfl (XS.i2b X9.here hx rfl (hb y d5_30) rfl k)) ?_
        obtain ⟨zcl13, zAr13, zq13, zS13, zM13, zH13, zG13⟩ := id V9
        obtain ⟨T14, h14, X14, e14, W14, st14⟩ := stB X9 hx hZ e9 zAr13 (j := (2 : Int32)) (inb_of zS13 ⟨by decide, by decide⟩) (g := (mkF m 31 #[vr a1, vi 2, vr a2, vi 2, vi 3, vi 2, vi c2] [(.int (c2.toInt8.toInt32)), (.int 2), (.ref a2)])) rfl rfl (hb y d5_31)
        refine Gl.of st14 ?_
        have V14 : Arv Z h14 a2 kB .byte (3 : Int32) [(.int (nar .byte (c0.toInt8.toInt32))), (.int (nar .byte (c1.toInt8.toInt32))), (.int (nar .byte (c2.toInt8.toInt32)))] (.int 0) := Arv.set zAr13 zq13 zS13 zM13 zH13 zG13 (fits_nar_byte _) W14 2 rfl (Nat.le_of_ble_eq_true rfl)
        have vc15 := vc10.other W14 hne
        have N14 := Fr.snoc X14 N9 Ga2
        have O14 := O9.wr W14 Ga2
        have K14 := K9.wr W14 (Or.inl (List.mem_of_getElem? (i := 0) rfl))
        show Gf p e below _ T14 m 32 #[vr a1, vi 2, vr a2, vi 2, vi 3, vi 2, vi c2] []
        refine gs (fun _ k => XS.iinc X14.here hx rfl (hb y d5_32) rfl (l' := #[vr a1, vi 3, vr a2, vi 2, vi 3, vi 2, vi c2]) rfl (XS.iinc X14.here hx rfl (hb y d5_35) rfl (l' := #[vr a1, vi 3, vr a2, vi 3, vi 3, vi 2, vi c2]) rfl (XS.iinc X14.here hx rfl (hb y d5_38) rfl (l' := #[vr a1, vi 3, vr a2, vi 3, vi 3, vi 3, vi c2]) rfl (XS.goto X14.here hx rfl (pc0 := 41) (pc' := 3) rfl (hb y d5_41) (by decide) (by decide) (XS.iload X14.here hx rfl (hb y d5_3) rfl (XS.iload X14.here hx rfl (hb y d5_5) rfl k)))))) ?_
        show Gf p e below _ T14 m 7 #[vr a1, vi 3, vr a2, vi 3, vi 3, vi 3, vi c2] [(.int 3), (.int 3)]
        refine gs (fun _ k => XS.icmpYes X14.here hx rfl (pc0 := 7) (pc' := 44) rfl (hb y d5_7) rfl (flt (by decide : ¬ ((3 : Int32) < (3 : Int32)))).2.1 (by decide) (by decide) (XS.iload X14.here hx rfl (hb y d5_44) rfl k)) ?_
        exact Gl.retI X14 hx hlk hret (hb y d5_46) e14 (⟨_, _, rfl, N14, K14, V14, Or.inl ⟨rfl, rfl, hc20_2, hc20_7, hc20_12⟩⟩) (by decide) (by decide)
theorem rmC3 {l : Launch} {Z : State} {a0 : Array Value} (hw : HW Z a0) {h0 : Heap} (a1 : Addr) (kk1 kB : ClassId) (c0 c1 c2 : Int32) (n0 : Nat) (hfb : Z.vm.findClass "[B" = some kB) (V1 : Arv Z h0 a1 kk1 .char (3 : Int32) [.int c0, .int c1, .int c2] (.int 0)) (hr0 : rg c0) (hr1 : rg c1) (hr2 : rg c2) (Sa : sSa Z) (Sh : sSh Z) (Sl : sSl Z) (O0 : Old Z n0 h0) : Con l Z my7 bc19 6 (some (.array .byte)) [] (ro 3 2 9 45) 2 9 #[(.ref a1), (.int 0), (.int 3)] h0 (fun v h L => ∃ r, v = some (.ref r) ∧ ((Arv Z h r kB .byte (3 : Int32) [.int (o8 c0), .int (o8 c1), .int (o8 c2)] (.int 0) ∧ (¬ (255 : Int32) < c0 ∧ ¬ (255 : Int32) < c1 ∧ ¬ (255 : Int32) < c2)) ∨ Arv Z h r kB .byte (6 : Int32) [.int (oh c0), .int (ol c0), .int (oh c1), .int (ol c1), .int (oh c2), .int (ol c2)] (.int 0)) ∧ Keep h0 h [] ∧ Fr n0 L ∧ n0 ≤ r ∧ h0.size ≤ r) := by
  refine Con.intro (plainFor_of_name pn_0) ?_
  intro p e s m below meth c s₁ X0 hx y hml hZ hown hnm hret hlk e0 hs0
  refine gs (fun _ k => castTop (ef_7 m a1 (0 : Int32) (3 : Int32)) k) ?_
  have K0 := Keep.refl h0 []
  show Gf p e below _ s₁ m 0 #[vr a1, vi 0, vi 3, vu, vu, vu] []
  refine gs (fun _ k => XS.iloadN X0.here hx rfl (hb y d4_0) rfl k) ?_
  obtain ⟨T1, h1, k1, X1, e1, E1, A1, Ex1, st1⟩ := newPE (aty := .byte) X0 hx hZ (w21 hw) e0 (g := (mkF m 1 #[vr a1, vi 0, vi 3, vu, vu, vu] [(.int 3)])) rfl (hb y d4_1) rfl (by decide) (cap := 3) (by decide) (by decide) (by decide) (by decide) (ad := "[B") rfl
  have kq1 := own_fbn A1 Ex1 hfb
  rw [kq1] at A1
  obtain ⟨b1, g1⟩ : ∃ z, z = h0.size := ⟨_, rfl⟩
  rw [← g1] at A1 st1
  refine Gl.of st1 ?_
  have Gb1 : n0 ≤ b1 := Nat.le_trans (O0.1 ▸ O0.2.1) (Nat.le_of_eq g1.symm)
  have Jb1 : h0.size ≤ b1 := Nat.le_trans K0.1 (Nat.le_of_eq g1.symm)
  have ne_a1_b1 : a1 ≠ b1 := Nat.ne_of_lt (Nat.lt_of_lt_of_le V1.lt (Nat.le_of_eq g1.symm))
  have vc2 := V1.ext E1
  have O1 := O0.ext E1
  have K1 := K0.ext E1
  have V1 : Arv Z h1 b1 kB .byte (3 : Int32) [(.int 0), (.int 0), (.int 0)] (.int 0) := (Arv.new A1 (by decide)).pad (pad_rep [] (.int 0) 3)
  show Gf p e below _ T1 m 3 #[vr a1, vi 0, vi 3, vu, vu, vu] [(.ref b1)]
  refine gs (fun _ k => XS.astoreN X1.here hx rfl (hb y d4_3) rfl rfl (l' := #[vr a1, vi 0, vi 3, vr b1, vu, vu]) rfl (XS.aloadN X1.here hx rfl (hb y d4_4) rfl rfl (XS.iloadN X1.here hx rfl (hb y d4_5) rfl (XS.aloadN X1.here hx rfl (hb y d4_6) rfl rfl (XS.iconst X1.here hx rfl (hb y d4_7) (XS.iloadN X1.here hx rfl (hb y d4_8) rfl k)))))) ?_
  show Gf p e below _ T1 m 9 #[vr a1, vi 0, vi 3, vr b1, vu, vu] [(.int 3), (.int 0), (.ref b1), (.int 0), (.ref a1)]
  refine Gl.callS X1 hx hZ (y := my6) hown (w22 hw) (w23 hw) (w19 hw) (w24 hw) (desc_ne (by decide)) (rm := ro 0 0 0 0) (argsL := [(.ref a1), (.int 0), (.ref b1), (.int 0), (.int 3)]) (rest := []) (rmK3 hw a1 b1 kk1 kB c0 c1 c2 n0 vc2 V1 ne_a1_b1 Gb1 O1) 0 (by decide) (by decide) (by decide) (by decide) e1 hml.symm pd_3 rfl rfl (Nat.le_of_eq rfl) (hb y d4_9) ?_
  intro v3 T3 L3 X3 hQ3
  obtain ⟨z3, vs3, rfl, Nq3, Kq3, Vq3, dj3⟩ := hQ3
  have N3 := Fr.app (Fr.nil n0) Nq3
  have vc4 := vc2.keep Kq3 (fun q => ne_a1_b1 (List.mem_singleton.mp q))
  have O3 := O1.keep Kq3 (allS Gb1 all0)
  have K3 := K1.trans Kq3 (by intro x hx'; cases List.mem_singleton.mp hx'; exact Or.inr Jb1)
  rcases dj3 with ⟨rfl, rfl, le3⟩ | ⟨rfl, hb3⟩ | ⟨rfl, hb3⟩ | ⟨rfl, hb3⟩
  · show Gf p e below _ T3 m 12 #[vr a1, vi 0, vi 3, vr b1, vu, vu] [(.int 3)]
    refine gs (fun _ k => XS.istore X3.here hx rfl (hb y d4_12) rfl (l' := #[vr a1, vi 0, vi 3, vr b1, vi 3, vu]) rfl (XS.iload X3.here hx rfl (hb y d4_14) rfl (XS.iloadN X3.here hx rfl (hb y d4_16) rfl (XS.icmpYes X3.here hx rfl (pc0 := 17) (pc' := 57) rfl (hb y d4_17) rfl (teq (by decide : (3 : Int32) = (3 : Int32))).1 (by decide) (by decide) (XS.aloadN X3.here hx rfl (hb y d4_57) rfl rfl k))))) ?_
    exact Gl.retR X3 hx hlk hret rfl rfl (hb y d4_58) rfl (⟨_, rfl, Or.inl ⟨Vq3, le3⟩, K3, N3, Gb1, Jb1⟩) (by decide) (by decide)
  · show Gf p e below _ T3 m 12 #[vr a1, vi 0, vi 3, vr b1, vu, vu] [(.int 0)]
    refine gs (fun _ k => XS.istore X3.here hx rfl (hb y d4_12) rfl (l' := #[vr a1, vi 0, vi 3, vr b1, vi 0, vu]) rfl (XS.iload X3.here hx rfl (hb y d4_14) rfl (XS.iloadN X3.here hx rfl (hb y d4_16) rfl (XS.icmpNo X3.here hx rfl (hb y d4_17) rfl (feq (by decide : ¬ ((0 : Int32) = (3 : Int32)))).1 (XS.aloadN X3.here hx rfl (hb y d4_20) rfl rfl (XS.iloadN X3.here hx rfl (hb y d4_21) rfl k)))))) ?_
    show Gf p e below _ T3 m 22 #[vr a1, vi 0, vi 3, vr b1, vi 0, vu] [(.int 0), (.ref a1)]
    refine gs (fun _ k => XS.iloadN X3.here hx rfl (hb y d4_22) rfl k) ?_
    refine Gl.callS X3 hx hZ (y := my4) hown (w135 hw) (w136 hw) (w19 hw) (w137 hw) (desc_ne (by decide)) (rm := ro 2 1 6 26) (argsL := [(.ref a1), (.int 0), (.int 3)]) (rest := []) (rmB3 hw a1 kk1 kB c0 c1 c2 n0 hfb vc4 Sa Sh Sl O3) 0 (by decide) (by decide) (by decide) (by decide) rfl hml.symm pd_4 rfl rfl (Nat.le_of_eq rfl) (hb y d4_23) ?_
    intro v5 T5 L5 X5 hQ5
    obtain ⟨r5, rfl, Vq5, Kq5, Nq5, Gr5, H5⟩ := hQ5
    have N5 := Fr.app N3 Nq5
    have ne_a1_r5 : a1 ≠ r5 := Nat.ne_of_lt (Nat.lt_of_lt_of_le vc4.lt H5)
    have ne_b1_r5 : b1 ≠ r5 := Nat.ne_of_lt (Nat.lt_of_lt_of_le Vq3.lt H5)
    have Jr5 : h0.size ≤ r5 := Nat.le_trans K3.1 H5
    have vc6 := vc4.keep Kq5 (by simp)
    have vc7 := Vq3.keep Kq5 (by simp)
    have O5 := O3.keep Kq5 all0
    have K5 := K3.trans Kq5 (by intro x hx'; exact nomatch hx')
    show Gf p e below _ T5 m 26 #[vr a1, vi 0, vi 3, vr b1, vi 0, vu] [(.ref r5)]
    refine gs (fun _ k => XS.astore X5.here hx rfl (hb y d4_26) rfl rfl (l' := #[vr a1, vi 0, vi 3, vr b1, vi 0, vr r5]) rfl (XS.aload X5.here hx rfl (hb y d4_28) rfl rfl (XS.iload X5.here hx rfl (hb y d4_30) rfl k))) ?_
    refine Gl.callS0 X5 hx hZ (y := my5) hown (w151 hw) (w152 hw) (w19 hw) (w153 hw) (desc_ne (by decide)) (argsL := [(.ref r5), (.int 0)]) (rest := []) (rmG30 hw r5 kB c0 c1 c2 n0 Vq5 hr0 Sa Sh Sl O5) 0 (by decide) (by decide) rfl hml.symm pd_5 rfl rfl (Nat.le_of_eq rfl) (hb y d4_32) (by decide) (by decide) ?_
    intro v8 T8 X8 e8 hv8
    subst hv8
    show Gf p e below _ T8 m 35 #[vr a1, vi 0, vi 3, vr b1, vi 0, vr r5] [(.int c0)]
    refine gs (fun _ k => XS.sipush X8.here hx rfl (hb y d4_35) (XS.icmpYes X8.here hx rfl (pc0 := 38) (pc' := 54) rfl (hb y d4_38) rfl (tlt hb3).2.2.1 (by decide) (by decide) (XS.aload X8.here hx rfl (hb y d4_54) rfl rfl k))) ?_
    exact Gl.retR X8 hx hlk hret rfl rfl (hb y d4_56) e8 (⟨_, rfl, Or.inr Vq5, K5, N5, Gr5, Jr5⟩) (by decide) (by decide)
  · show Gf p e below _ T3 m 12 #[vr a1, vi 0, vi 3, vr b1, vu, vu] [(.int 1)]
    refine gs (fun _ k => XS.istore X3.here hx rfl (hb y d4_12) rfl (l' := #[vr a1, vi 0, vi 3, vr b1, vi 1, vu]) rfl (XS.iload X3.here hx rfl (hb y d4_14) rfl (XS.iloadN X3.here hx rfl (hb y d4_16) rfl (XS.icmpNo X3.here hx rfl (hb y d4_17) rfl (feq (by decide : ¬ ((1 : Int32) = (3 : Int32)))).1 (XS.aloadN X3.here hx rfl (hb y d4_20) rfl rfl (XS.iloadN X3.here hx rfl (hb y d4_21) rfl k)))))) ?_
    show Gf p e below _ T3 m 22 #[vr a1, vi 0, vi 3, vr b1, vi 1, vu] [(.int 0), (.ref a1)]
    refine gs (fun _ k => XS.iloadN X3.here hx rfl (hb y d4_22) rfl k) ?_
    refine Gl.callS X3 hx hZ (y := my4) hown (w135 hw) (w136 hw) (w19 hw) (w137 hw) (desc_ne (by decide)) (rm := ro 2 1 6 26) (argsL := [(.ref a1), (.int 0), (.int 3)]) (rest := []) (rmB3 hw a1 kk1 kB c0 c1 c2 n0 hfb vc4 Sa Sh Sl O3) 0 (by decide) (by decide) (by decide) (by decide) rfl hml.symm pd_4 rfl rfl (Nat.le_of_eq rfl) (hb y d4_23) ?_
    intro v9 T9 L9 X9 hQ9
    obtain ⟨r9, rfl, Vq9, Kq9, Nq9, Gr9, H9⟩ := hQ9
    have N9 := Fr.app N3 Nq9
    have ne_a1_r9 : a1 ≠ r9 := Nat.ne_of_lt (Nat.lt_of_lt_of_le vc4.lt H9)
    have ne_b1_r9 : b1 ≠ r9 := Nat.ne_of_lt (Nat.lt_of_lt_of_le Vq3.lt H9)
    have Jr9 : h0.size ≤ r9 := Nat.le_trans K3.1 H9
    have vc10 := vc4.keep Kq9 (by simp)
    have vc11 := Vq3.keep Kq9 (by simp)
    have O9 := O3.keep Kq9 all0
    have K9 := K3.trans Kq9 (by intro x hx'; exact nomatch hx')
    show Gf p e below _ T9 m 26 #[vr a1, vi 0, vi 3, vr b1, vi 1, vu] [(.ref r9)]
    refine gs (fun _ k => XS.astore X9.here hx rfl (hb y d4_26) rfl rfl (l' := #[vr a1, vi 0, vi 3, vr b1, vi 1, vr r9]) rfl (XS.aload X9.here hx rfl (hb y d4_28) rfl rfl (XS.iload X9.here hx rfl (hb y d4_30) rfl k))) ?_
    refine Gl.callS0 X9 hx hZ (y := my5) hown (w151 hw) (w152 hw) (w19 hw) (w153 hw) (desc_ne (by decide)) (argsL := [(.ref r9), (.int 1)]) (rest := []) (rmG31 hw r9 kB c0 c1 c2 n0 Vq9 hr1 Sa Sh Sl O9) 0 (by decide) (by decide) rfl hml.symm pd_5 rfl rfl (Nat.le_of_eq rfl) (hb y d4_32) (by decide) (by decide) ?_
    intro v12 T12 X12 e12 hv12
    subst hv12
    show Gf p e below _ T12 m 35 #[vr a1, vi 0, vi 3, vr b1, vi 1, vr r9] [(.int c1)]
    refine gs (fun _ k => XS.sipush X12.here hx rfl (hb y d4_35) (XS.icmpYes X12.here hx rfl (pc0 := 38) (pc' := 54) rfl (hb y d4_38) rfl (tlt hb3).2.2.1 (by decide) (by decide) (XS.aload X12.here hx rfl (hb y d4_54) rfl rfl k))) ?_
    exact Gl.retR X12 hx hlk hret rfl rfl (hb y d4_56) e12 (⟨_, rfl, Or.inr Vq9, K9, N9, Gr9, Jr9⟩) (by decide) (by decide)
  · show Gf p e below _ T3 m 12 #[vr a1, vi 0, vi 3, vr b1, vu, vu] [(.int 2)]
    refine gs (fun _ k => XS.istore X3.here hx rfl (hb y d4_12) rfl (l' := #[vr a1, vi 0, vi 3, vr b1, vi 2, vu]) rfl (XS.iload X3.here hx rfl (hb y d4_14) rfl (XS.iloadN X3.here hx rfl (hb y d4_16) rfl (XS.icmpNo X3.here hx rfl (hb y d4_17) rfl (feq (by decide : ¬ ((2 : Int32) = (3 : Int32)))).1 (XS.aloadN X3.here hx rfl (hb y d4_20) rfl rfl (XS.iloadN X3.here hx rfl (hb y d4_21) rfl k)))))) ?_
    show Gf p e below _ T3 m 22 #[vr a1, vi 0, vi 3, vr b1, vi 2, vu] [(.int 0), (.ref a1)]
    refine gs (fun _ k => XS.iloadN X3.here hx rfl (hb y d4_22) rfl k) ?_
    refine Gl.callS X3 hx hZ (y := my4) hown (w135 hw) (w136 hw) (w19 hw) (w137 hw) (desc_ne (by decide)) (rm := ro 2 1 6 26) (argsL := [(.ref a1), (.int 0), (.int 3)]) (rest := []) (rmB3 hw a1 kk1 kB c0 c1 c2 n0 hfb vc4 Sa Sh Sl O3) 0 (by decide) (by decide) (by decide) (by decide) rfl hml.symm pd_4 rfl rfl (Nat.le_of_eq rfl) (hb y d4_23) ?_
    intro v13 T13 L13 X13 hQ13
    obtain ⟨r13, rfl, Vq13, Kq13, Nq13, Gr13, H13⟩ := hQ13
    have N13 := Fr.app N3 Nq13
    have ne_a1_r13 : a1 ≠ r13 := Nat.ne_of_lt (Nat.lt_of_lt_of_le vc4.lt H13)
    have ne_b1_r13 : b1 ≠ r13 := Nat.ne_of_lt (Nat.lt_of_lt_of_le Vq3.lt H13)
    have Jr13 : h0.size ≤ r13 := Nat.le_trans K3.1 H13
    have vc14 := vc4.keep Kq13 (by simp)
    have vc15 := Vq3.keep Kq13 (by simp)
    have O13 := O3.keep Kq13 all0
    have K13 := K3.trans Kq13 (by intro x hx'; exact nomatch hx')
    show Gf p e below _ T13 m 26 #[vr a1, vi 0, vi 3, vr b1, vi 2, vu] [(.ref r13)]
    refine gs (fun _ k => XS.astore X13.here hx rfl (hb y d4_26) rfl rfl (l' := #[vr a1, vi 0, vi 3, vr b1, vi 2, vr r13]) rfl (XS.aload X13.here hx rfl (hb y d4_28) rfl rfl (XS.iload X13.here hx rfl (hb y d4_30) rfl k))) ?_
    refine Gl.callS0 X13 hx hZ (y := my5) hown (w151 hw) (w152 hw) (w19 hw) (w153 hw) (desc_ne (by decide)) (argsL := [(.ref r13), (.int 2)]) (rest := []) (rmG32 hw r13 kB c0 c1 c2 n0 Vq13 hr2 Sa Sh Sl O13) 0 (by decide) (by decide) rfl hml.symm pd_5 rfl rfl (Nat.le_of_eq rfl) (hb y d4_32) (by decide) (by decide) ?_
    intro v16 T16 X16 e16 hv16
    subst hv16
    show Gf p e below _ T16 m 35 #[vr a1, vi 0, vi 3, vr b1, vi 2, vr r13] [(.int c2)]
    refine gs (fun _ k => XS.sipush X16.here hx rfl (hb y d4_35) (XS.icmpYes X16.here hx rfl (pc0 := 38) (pc' := 54) rfl (hb y d4_38) rfl (tlt hb3).2.2.1 (by decide) (by decide) (XS.aload X16.here hx rfl (hb y d4_54) rfl rfl k))) ?_
    exact Gl.retR X16 hx hlk hret rfl rfl (hb y d4_56) e16 (⟨_, rfl, Or.inr Vq13, K13, N13, Gr13, Jr13⟩) (by decide) (by decide)
theorem rmZ30 {l : Launch} {Z : State} {a0 : Array Value} (hw : HW Z a0) {h0 : Heap} (a1 : Addr) (kB : ClassId) (vs : List Value) (V1 : Arv Z h0 a1 kB .byte (3 : Int32) vs (.int 0)) : Con l Z my8 bc18 2 (some .byte) [] (ro 0 0 0 0) 0 0 #[(.ref a1), (.int 3)] h0 (Pur (fun v => v = some (.int 0)) h0) := by
  refine Con.intro (plainFor_of_name pn_0) ?_
  intro p e s m below meth c s₁ X0 hx y hml hZ hown hnm hret hlk e0 hs0
  refine gs (fun _ k => castTop (ef_8 m a1 (3 : Int32)) k) ?_
  show Gf p e below _ s₁ m 0 #[vr a1, vi 3] []
  refine gs (fun _ k => XS.iloadN X0.here hx rfl (hb y d6_0) rfl (XS.aloadN X0.here hx rfl (hb y d6_1) rfl rfl k)) ?_
  obtain ⟨zcl1, zAr1, zq1, zS1, zM1, zH1, zG1⟩ := id V1
  refine gs (fun _ k => X0.arraylength hx (by rw [e0]; exact (zAr1).1) (State.isArrayOf_alike hZ.alike (zAr1).2.1) (g := (mkF m 2 #[vr a1, vi 3] [(.ref a1), (.int 3)])) rfl rfl (hb y d6_2) _ k) ?_
  rw [len_of zS1 (by decide)]
  show Gf p e below _ s₁ m 3 #[vr a1, vi 3] [(.int 3), (.int 3)]
  refine gs (fun _ k => XS.isub X0.here hx rfl (hb y d6_3) rfl k) ?_
  show Gf p e below _ s₁ m 4 #[vr a1, vi 3] [(.int 0)]
  refine gs (fun _ k => XS.bipush X0.here hx rfl (hb y d6_4) (XS.iushr X0.here hx rfl (hb y d6_6) rfl (XS.i2b X0.here hx rfl (hb y d6_7) rfl k))) ?_
  exact Gl.retN X0 hx hlk hret (by simp) (hb y d6_8) e0 (⟨rfl, rfl, rfl⟩) (by decide) (by decide)
theorem rmZ31 {l : Launch} {Z : State} {a0 : Array Value} (hw : HW Z a0) {h0 : Heap} (a1 : Addr) (kB : ClassId) (vs : List Value) (V1 : Arv Z h0 a1 kB .byte (6 : Int32) vs (.int 0)) : Con l Z my8 bc18 2 (some .byte) [] (ro 0 0 0 0) 0 0 #[(.ref a1), (.int 3)] h0 (Pur (fun v => v = some (.int 1)) h0) := by
  refine Con.intro (plainFor_of_name pn_0) ?_
  intro p e s m below meth c s₁ X0 hx y hml hZ hown hnm hret hlk e0 hs0
  refine gs (fun _ k => castTop (ef_8 m a1 (3 : Int32)) k) ?_
  show Gf p e below _ s₁ m 0 #[vr a1, vi 3] []
  refine gs (fun _ k => XS.iloadN X0.here hx rfl (hb y d6_0) rfl (XS.aloadN X0.here hx rfl (hb y d6_1) rfl rfl k)) ?_
  obtain ⟨zcl1, zAr1, zq1, zS1, zM1, zH1, zG1⟩ := id V1
  refine gs (fun _ k => X0.arraylength hx (by rw [e0]; exact (zAr1).1) (State.isArrayOf_alike hZ.alike (zAr1).2.1) (g := (mkF m 2 #[vr a1, vi 3] [(.ref a1), (.int 3)])) rfl rfl (hb y d6_2) _ k) ?_
  rw [len_of zS1 (by decide)]
  show Gf p e below _ s₁ m 3 #[vr a1, vi 3] [(.int 6), (.int 3)]
  refine gs (fun _ k => XS.isub X0.here hx rfl (hb y d6_3) rfl k) ?_
  show Gf p e below _ s₁ m 4 #[vr a1, vi 3] [(.int (-3 : Int32))]
  refine gs (fun _ k => XS.bipush X0.here hx rfl (hb y d6_4) (XS.iushr X0.here hx rfl (hb y d6_6) rfl (XS.i2b X0.here hx rfl (hb y d6_7) rfl k))) ?_
  exact Gl.retN X0 hx hlk hret (by simp) (hb y d6_8) e0 (⟨rfl, rfl, rfl⟩) (by decide) (by decide)
theorem rmI3 {l : Launch} {Z : State} {a0 : Array Value} (hw : HW Z a0) {h0 : Heap} (b1 a1 : Addr) (kk1 kB : ClassId) (c0 c1 c2 : Int32) (cz : Int32) (n0 : Nat) (hfb : Z.vm.findClass "[B" = some kB) (E1 : xS Z h0 b1) (Fv : Fld Z h0 b1 "java/lang/String" "value" "[B" .null) (Fc : fC Z h0 b1 0) (Gb1 : n0 ≤ b1) (V1 : Arv Z h0 a1 kk1 .char (3 : Int32) [.int c0, .int c1, .int c2] (.int 0)) (hab : ¬ a1 = b1) (hr0 : rg c0) (hr1 : rg c1) (hr2 : rg c2) (SC : sSC Z cz) (hcz : ¬ cz = 0) (Sa : sSa Z) (Sh : sSh Z) (Sl : sSl Z) (O0 : Old Z n0 h0) : Con l Z my9 bc4 6 none [] (ro 4 2 9 66) 2 9 #[(.ref b1), (.ref a1), (.int 0), (.int 3), .null] h0 (fun v h L => v = none ∧ Fr n0 L ∧ Keep h0 h [b1] ∧ ∃ t, fV Z h b1 t ∧ ((fC Z h b1 0 ∧ Arv Z h t kB .byte (3 : Int32) [.int (o8 c0), .int (o8 c1), .int (o8 c2)] (.int 0) ∧ (¬ (255 : Int32) < c0 ∧ ¬ (255 : Int32) < c1 ∧ ¬ (255 : Int32) < c2)) ∨ (fC Z h b1 1 ∧ Arv Z h t kB .byte (6 : Int32) [.int (oh c0), .int (ol c0), .int (oh c1), .int (ol c1), .int (oh c2), .int (ol c2)] (.int 0)))) := by
  refine Con.intro (plainFor_of_name pn_1) ?_
  intro p e s m below meth c s₁ X0 hx y hml hZ hown hnm hret hlk e0 hs0
  refine gs (fun _ k => castTop (ef_9 m b1 a1 (0 : Int32) (3 : Int32) ) k) ?_
  have K0 := Keep.refl h0 [b1]
  show Gf p e below _ s₁ m 0 #[vr b1, vr a1, vi 0, vi 3, .val .null, vu] []
  refine gs (fun _ k => XS.aloadN X0.here hx rfl (hb y d2_0) rfl rfl k) ?_
  obtain ⟨T1, X1, e1, st1⟩ := initO X0 hx hZ hown (w13 hw) (w14 hw) (w15 hw) e0 (g := (mkF m 1 #[vr b1, vr a1, vi 0, vi 3, .val .null, vu] [(.ref b1)])) rfl hml.symm rfl (hb y d2_1) (by decide) (W := 0) (by show 2 * 0 + _ ≤ _; exact Nat.le_of_eq rfl) (by decide)
  refine Gl.of st1 ?_
  show Gf p e below _ T1 m 4 #[vr b1, vr a1, vi 0, vi 3, .val .null, vu] []
  refine gs (fun _ k => XS.iloadN X1.here hx rfl (hb y d2_4) rfl (XS.ifYes X1.here hx rfl (pc0 := 5) (pc' := 27) rfl (hb y d2_5) rfl ((if0 _ _).trans (feq (by decide : ¬ ((3 : Int32) = (0 : Int32)))).2) (by decide) (by decide) k)) ?_
  obtain ⟨T2, X2, e2, st2⟩ := getS2 X1 hx hZ hown (host := "") (Or.inl (w16 hw)) Via.refl e1 (SC.ext O0.2) (g := (mkF m 27 #[vr b1, vr a1, vi 0, vi 3, .val .null, vu] [])) rfl (hb y d2_27)
  refine Gl.of st2 ?_
  show Gf p e below _ T2 m 30 #[vr b1, vr a1, vi 0, vi 3, .val .null, vu] [(.int cz)]
  refine gs (fun _ k => XS.ifNo X2.here hx rfl (hb y d2_30) rfl ((if0 _ _).trans (feq hcz).1) (XS.aloadN X2.here hx rfl (hb y d2_33) rfl rfl (XS.iloadN X2.here hx rfl (hb y d2_34) rfl (XS.iloadN X2.here hx rfl (hb y d2_35) rfl k)))) ?_
  refine Gl.callS X2 hx hZ (y := my7) hown (w17 hw) (w18 hw) (w19 hw) (w20 hw) (desc_ne (by decide)) (rm := ro 3 2 9 45) (argsL := [(.ref a1), (.int 0), (.int 3)]) (rest := []) (rmC3 hw a1 kk1 kB c0 c1 c2 n0 hfb V1 hr0 hr1 hr2 Sa Sh Sl O0) 0 (by decide) (by decide) (by decide) (by decide) e2 hml.symm pd_4 rfl rfl (Nat.le_of_eq rfl) (hb y d2_36) ?_
  intro v3 T3 L3 X3 hQ3
  obtain ⟨r3, rfl, dj3, Kq3, Nq3, Gr3, H3⟩ := hQ3
  have N3 := Fr.app (Fr.nil n0) Nq3
  have ne_a1_r3 : a1 ≠ r3 := Nat.ne_of_lt (Nat.lt_of_lt_of_le V1.lt H3)
  have ne_b1_r3 : b1 ≠ r3 := Nat.ne_of_lt (Nat.lt_of_lt_of_le E1.lt H3)
  have Jr3 : h0.size ≤ r3 := Nat.le_trans K0.1 H3
  have vc4 := V1.keep Kq3 (by simp)
  have ec5 := E1.keep Kq3
  have fc6 := Fv.keep Kq3 (by simp)
  have fc7 := Fc.keep Kq3 (by simp)
  have O3 := O0.keep Kq3 all0
  have K3 := K0.trans Kq3 (by intro x hx'; exact nomatch hx')
  rcases dj3 with ⟨Vq3, le3⟩ | Vq3
  · show Gf p e below _ T3 m 39 #[vr b1, vr a1, vi 0, vi 3, .val .null, vu] [(.ref r3)]
    refine gs (fun _ k => XS.astore X3.here hx rfl (hb y d2_39) rfl rfl (l' := #[vr b1, vr a1, vi 0, vi 3, .val .null, vr r3]) rfl (XS.aloadN X3.here hx rfl (hb y d2_41) rfl rfl (XS.aload X3.here hx rfl (hb y d2_42) rfl rfl (XS.iloadN X3.here hx rfl (hb y d2_44) rfl k)))) ?_
    refine Gl.callS0 X3 hx hZ (y := my8) hown (w25 hw) (w26 hw) (w19 hw) (w27 hw) (desc_ne (by decide)) (argsL := [(.ref r3), (.int 3)]) (rest := [(.ref b1)]) (rmZ30 hw r3 kB _ Vq3) 1 (by decide) (by decide) rfl hml.symm pd_6 rfl rfl (Nat.le_of_eq rfl) (hb y d2_45) (by decide) (by decide) ?_
    intro v8 T8 X8 e8 hv8
    subst hv8
    show Gf p e below _ T8 m 48 #[vr b1, vr a1, vi 0, vi 3, .val .null, vr r3] [(.int 0), (.ref b1)]
    obtain ⟨T9, h9, X9, e9, W9, st9⟩ := putFN X8 hx hZ hown (w28 hw) Via.refl e8 fc7 ec5 (Or.inr ⟨(w29 hw), rfl, hnm⟩) (w3 hw) (ty := .byte) (v' := (.int (nar .byte (0 : Int32)))) (by decide) rfl (fits_nar_byte _) (g := (mkF m 48 #[vr b1, vr a1, vi 0, vi 3, .val .null, vr r3] [(.int 0), (.ref b1)])) rfl rfl (hb y d2_48)
    refine Gl.of st9 ?_
    have F9 : Fld Z h9 b1 "java/lang/String" "coder" "B" (.int (nar .byte (0 : Int32))) := fc7.same W9
    have vc10 := vc4.other W9 hab
    have ec11 := ec5.wr W9
    have fc12 := fc6.other W9 (Or.inr (slot_ne (Or.inr (w31 hw)) (Or.inr (w29 hw)) (by decide) (t := (.array .byte)) (t' := .byte) (by decide) (by decide)))
    have vc13 := Vq3.other W9 ne_b1_r3.symm
    have N9 := Fr.snoc X9 N3 Gb1
    have O9 := O3.wr W9 Gb1
    have K9 := K3.wr W9 (Or.inl (List.mem_of_getElem? (i := 0) rfl))
    show Gf p e below _ T9 m 51 #[vr b1, vr a1, vi 0, vi 3, .val .null, vr r3] []
    refine gs (fun _ k => XS.aloadN X9.here hx rfl (hb y d2_51) rfl rfl (XS.aload X9.here hx rfl (hb y d2_52) rfl rfl k)) ?_
    obtain ⟨T14, h14, X14, e14, W14, st14⟩ := putF X9 hx hZ hown (host := "") (Or.inl (w30 hw)) Via.refl e9 fc12 ec11 (Or.inr ⟨(w31 hw), rfl, hnm⟩) (w3 hw) (ty := (.array .byte)) (by decide) rfl rfl (g := (mkF m 54 #[vr b1, vr a1, vi 0, vi 3, .val .null, vr r3] [(.ref r3), (.ref b1)])) rfl rfl (hb y d2_54)
    refine Gl.of st14 ?_
    have F14 : fV Z h14 b1 r3 := fc12.same W14
    have vc15 := vc10.other W14 hab
    have ec16 := ec11.wr W14
    have vc17 := vc13.other W14 ne_b1_r3.symm
    have fc18 := F9.other W14 (Or.inr (slot_ne (Or.inr (w29 hw)) (Or.inr (w31 hw)) (by decide) (t := .byte) (t' := (.array .byte)) (by decide) (by decide)))
    have N14 := Fr.snoc X14 N9 Gb1
    have O14 := O9.wr W14 Gb1
    have K14 := K9.wr W14 (Or.inl (List.mem_of_getElem? (i := 0) rfl))
    show Gf p e below _ T14 m 57 #[vr b1, vr a1, vi 0, vi 3, .val .null, vr r3] []
    exact Gl.ret0 X14 hx hlk hret (hb y d2_57) e14 (⟨rfl, N14, K14, _, F14, Or.inl ⟨fc18, vc17, le3⟩⟩) (by decide) (by decide)
  · show Gf p e below _ T3 m 39 #[vr b1, vr a1, vi 0, vi 3, .val .null, vu] [(.ref r3)]
    refine gs (fun _ k => XS.astore X3.here hx rfl (hb y d2_39) rfl rfl (l' := #[vr b1, vr a1, vi 0, vi 3, .val .null, vr r3]) rfl (XS.aloadN X3.here hx rfl (hb y d2_41) rfl rfl (XS.aload X3.here hx rfl (hb y d2_42) rfl rfl (XS.iloadN X3.here hx rfl (hb y d2_44) rfl k)))) ?_
    refine Gl.callS0 X3 hx hZ (y := my8) hown (w25 hw) (w26 hw) (w19 hw) (w27 hw) (desc_ne (by decide)) (argsL := [(.ref r3), (.int 3)]) (rest := [(.ref b1)]) (rmZ31 hw r3 kB _ Vq3) 1 (by decide) (by decide) rfl hml.symm pd_6 rfl rfl (Nat.le_of_eq rfl) (hb y d2_45) (by decide) (by decide) ?_
    intro v19 T19 X19 e19 hv19
    subst hv19
    show Gf p e below _ T19 m 48 #[vr b1, vr a1, vi 0, vi 3, .val .null, vr r3] [(.int 1), (.ref b1)]
    obtain ⟨T20, h20, X20, e20, W20, st20⟩ := putFN X19 hx hZ hown (w28 hw) Via.refl e19 fc7 ec5 (Or.inr ⟨(w29 hw), rfl, hnm⟩) (w3 hw) (ty := .byte) (v' := (.int (nar .byte (1 : Int32)))) (by decide) rfl (fits_nar_byte _) (g := (mkF m 48 #[vr b1, vr a1, vi 0, vi 3, .val .null, vr r3] [(.int 1), (.ref b1)])) rfl rfl (hb y d2_48)
    refine Gl.of st20 ?_
    have F20 : Fld Z h20 b1 "java/lang/String" "coder" "B" (.int (nar .byte (1 : Int32))) := fc7.same W20
    have vc21 := vc4.other W20 hab
    have ec22 := ec5.wr W20
    have fc23 := fc6.other W20 (Or.inr (slot_ne (Or.inr (w31 hw)) (Or.inr (w29 hw)) (by decide) (t := (.array .byte)) (t' := .byte) (by decide) (by decide)))
    have vc24 := Vq3.other W20 ne_b1_r3.symm
    have N20 := Fr.snoc X20 N3 Gb1
    have O20 := O3.wr W20 Gb1
    have K20 := K3.wr W20 (Or.inl (List.mem_of_getElem? (i := 0) rfl))
    show Gf p e below _ T20 m 51 #[vr b1, vr a1, vi 0, vi 3, .val .null, vr r3] []
    refine gs (fun _ k => XS.aloadN X20.here hx rfl (hb y d2_51) rfl rfl (XS.aload X20.here hx rfl (hb y d2_52) rfl rfl k)) ?_
    obtain ⟨T25, h25, X25, e25, W25, st25⟩ := putF X20 hx hZ hown (host := "") (Or.inl (w30 hw)) Via.refl e20 fc23 ec22 (Or.inr ⟨(w31 hw), rfl, hnm⟩) (w3 hw) (ty := (.array .byte)) (by decide) rfl rfl (g := (mkF m 54 #[vr b1, vr a1, vi 0, vi 3, .val .null, vr r3] [(.ref r3), (.ref b1)])) rfl rfl (hb y d2_54)
    refine Gl.of st25 ?_
    have F25 : fV Z h25 b1 r3 := fc23.same W25
    have vc26 := vc21.other W25 hab
    have ec27 := ec22.wr W25
    have vc28 := vc24.other W25 ne_b1_r3.symm
    have fc29 := F20.other W25 (Or.inr (slot_ne (Or.inr (w29 hw)) (Or.inr (w31 hw)) (by decide) (t := .byte) (t' := (.array .byte)) (by decide) (by decide)))
    have N25 := Fr.snoc X25 N20 Gb1
    have O25 := O20.wr W25 Gb1
    have K25 := K20.wr W25 (Or.inl (List.mem_of_getElem? (i := 0) rfl))
    show Gf p e below _ T25 m 57 #[vr b1, vr a1, vi 0, vi 3, .val .null, vr r3] []
    exact Gl.ret0 X25 hx hlk hret (hb y d2_57) e25 (⟨rfl, N25, K25, _, F25, Or.inr ⟨fc29, vc28⟩⟩) (by decide) (by decide)
theorem rmJ3 {l : Launch} {Z : State} {a0 : Array Value} (hw : HW Z a0) {h0 : Heap} (b1 a1 : Addr) (kk1 kB : ClassId) (c0 c1 c2 : Int32) (cz : Int32) (n0 : Nat) (hfb : Z.vm.findClass "[B" = some kB) (E1 : xS Z h0 b1) (Fv : Fld Z h0 b1 "java/lang/String" "value" "[B" .null) (Fc : fC Z h0 b1 0) (Gb1 : n0 ≤ b1) (V1 : Arv Z h0 a1 kk1 .char (3 : Int32) [.int c0, .int c1, .int c2] (.int 0)) (hab : ¬ a1 = b1) (hr0 : rg c0) (hr1 : rg c1) (hr2 : rg c2) (SC : sSC Z cz) (hcz : ¬ cz = 0) (Sa : sSa Z) (Sh : sSh Z) (Sl : sSl Z) (O0 : Old Z n0 h0) : Con l Z my10 bc11 2 none [] (ro 5 2 9 84) 2 9 #[(.ref b1), (.ref a1)] h0 (fun v h L => v = none ∧ Fr n0 L ∧ Keep h0 h [b1] ∧ ∃ t, fV Z h b1 t ∧ ((fC Z h b1 0 ∧ Arv Z h t kB .byte (3 : Int32) [.int (o8 c0), .int (o8 c1), .int (o8 c2)] (.int 0) ∧ (¬ (255 : Int32) < c0 ∧ ¬ (255 : Int32) < c1 ∧ ¬ (255 : Int32) < c2)) ∨ (fC Z h b1 1 ∧ Arv Z h t kB .byte (6 : Int32) [.int (oh c0), .int (ol c0), .int (oh c1), .int (ol c1), .int (oh c2), .int (ol c2)] (.int 0)))) := by
  refine Con.intro (plainFor_of_name pn_1) ?_
  intro p e s m below meth c s₁ X0 hx y hml hZ hown hnm hret hlk e0 hs0
  refine gs (fun _ k => castTop (ef_10 m b1 a1) k) ?_
  have K0 := Keep.refl h0 [b1]
  show Gf p e below _ s₁ m 0 #[vr b1, vr a1] []
  refine gs (fun _ k => XS.aloadN X0.here hx rfl (hb y d1_0) rfl rfl (XS.aloadN X0.here hx rfl (hb y d1_1) rfl rfl (XS.iconst X0.here hx rfl (hb y d1_2) (XS.aloadN X0.here hx rfl (hb y d1_3) rfl rfl k)))) ?_
  obtain ⟨zcl1, zAr1, zq1, zS1, zM1, zH1, zG1⟩ := id V1
  refine gs (fun _ k => X0.arraylength hx (by rw [e0]; exact (zAr1).1) (State.isArrayOf_alike hZ.alike (zAr1).2.1) (g := (mkF m 4 #[vr b1, vr a1] [(.ref a1), (.int 0), (.ref a1), (.ref b1)])) rfl rfl (hb y d1_4) _ k) ?_
  rw [len_of zS1 (by decide)]
  show Gf p e below _ s₁ m 5 #[vr b1, vr a1] [(.int 3), (.int 0), (.ref a1), (.ref b1)]
  refine gs (fun _ k => XS.aconstNull X0.here hx rfl (hb y d1_5) k) ?_
  refine Gl.callI X0 hx hZ (y := my9) rfl hown (w9 hw) (w10 hw) (w4 hw) (w12 hw) (desc_ne (by decide)) (rm := ro 4 2 9 66) (b := b1) (argsL := [(.ref a1), (.int 0), (.int 3), .null]) (rest := []) (rmI3 hw b1 a1 kk1 kB c0 c1 c2 cz n0 hfb E1 Fv Fc Gb1 V1 hab hr0 hr1 hr2 SC hcz Sa Sh Sl O0) 0 (by decide) (by decide) (by decide) (by decide) e0 hml.symm pd_7 rfl rfl (Nat.le_of_eq rfl) (hb y d1_6) ?_
  intro v2 T2 L2 X2 hQ2
  obtain ⟨rfl, Nq2, Kq2, ex2⟩ := hQ2
  have N2 := Fr.app (Fr.nil n0) Nq2
  have vc3 := V1.keep Kq2 (fun q => hab (List.mem_singleton.mp q))
  have ec4 := E1.keep Kq2
  have O2 := O0.keep Kq2 (allS Gb1 all0)
  have K2 := K0.trans Kq2 (by intro x hx'; cases List.mem_singleton.mp hx'; exact Or.inl (List.mem_of_getElem? (i := 0) rfl))
  show Gf p e below _ T2 m 9 #[vr b1, vr a1] []
  exact Gl.ret0 X2 hx hlk hret (hb y d1_9) rfl (⟨rfl, N2, K2, ex2⟩) (by decide) (by decide)
theorem rmL4 {l : Launch} {Z : State} {a0 : Array Value} (hw : HW Z a0) {h0 : Heap} : Con l Z my2 bc24 1 (some .int) [] (ro 0 0 0 0) 0 0 #[(.int 4)] h0 (Pur (fun v => v = some (.int 8)) h0) := by
  refine Con.intro (plainFor_of_name pn_0) ?_
  intro p e s m below meth c s₁ X0 hx y hml hZ hown hnm hret hlk e0 hs0
  refine gs (fun _ k => castTop (ef_2 m (4 : Int32)) k) ?_
  show Gf p e below _ s₁ m 0 #[vi 4] []
  refine gs (fun _ k => XS.iloadN X0.here hx rfl (hb y d28_0) rfl (XS.ifYes X0.here hx rfl (pc0 := 1) (pc' := 12) rfl (hb y d28_1) rfl ((if0 _ _).trans (flt (by decide : ¬ ((4 : Int32) < (0 : Int32)))).2.1) (by decide) (by decide) (XS.iloadN X0.here hx rfl (hb y d28_12) rfl (X0.ldcInt hx hown (mvT hZ (w144 hw)) (g := (mkF m 13 #[vi 4] [(.int 4)])) rfl (hb y d28_13) _ (XS.icmpYes X0.here hx rfl (pc0 := 15) (pc' := 55) rfl (hb y d28_15) rfl (tlt (by decide : (4 : Int32) < (1073741823 : Int32))).1 (by decide) (by decide) (XS.iloadN X0.here hx rfl (hb y d28_55) rfl k)))))) ?_
  show Gf p e below _ s₁ m 56 #[vi 4] [(.int 4)]
  refine gs (fun _ k => XS.iconst X0.here hx rfl (hb y d28_56) (XS.ishl X0.here hx rfl (hb y d28_57) rfl k)) ?_
  show Gf p e below _ s₁ m 58 #[vi 4] [(.int 8)]
  exact Gl.retI X0 hx hlk hret (hb y d28_58) e0 (⟨rfl, rfl, rfl⟩) (by decide) (by decide)
theorem rmF4 {l : Launch} {Z : State} {a0 : Array Value} (hw : HW Z a0) {h0 : Heap} (kB : ClassId) (n0 : Nat) (hfb : Z.vm.findClass "[B" = some kB) (O0 : Old Z n0 h0) : Con l Z my3 bc23 1 (some (.array .byte)) [] (ro 1 1 8 13) 1 8 #[(.int 4)] h0 (fun v h L => ∃ r, v = some (.ref r) ∧ Arv Z h r kB .byte (8 : Int32) [.int (0 : Int32), .int (0 : Int32), .int (0 : Int32), .int (0 : Int32), .int (0 : Int32), .int (0 : Int32), .int (0 : Int32), .int (0 : Int32)] (.int 0) ∧ Keep h0 h [] ∧ Fr n0 L ∧ n0 ≤ r ∧ h0.size ≤ r) := by
  refine Con.intro (plainFor_of_name pn_0) ?_
  intro p e s m below meth c s₁ X0 hx y hml hZ hown hnm hret hlk e0 hs0
  refine gs (fun _ k => castTop (ef_3 m (4 : Int32)) k) ?_
  have K0 := Keep.refl h0 []
  show Gf p e below _ s₁ m 0 #[vi 4] []
  refine gs (fun _ k => XS.iloadN X0.here hx rfl (hb y d27_0) rfl k) ?_
  refine Gl.callS0 X0 hx hZ (y := my2) hown (w141 hw) (w142 hw) (w19 hw) (w143 hw) (desc_ne (by decide)) (argsL := [(.int 4)]) (rest := []) (rmL4 hw) 0 (by decide) (by decide) e0 hml.symm pd_0 rfl rfl (Nat.le_of_eq rfl) (hb y d27_1) (by decide) (by decide) ?_
  intro v1 T1 X1 e1 hv1
  subst hv1
  show Gf p e below _ T1 m 4 #[vi 4] [(.int 8)]
  obtain ⟨T2, h2, k2, X2, e2, E2, A2, Ex2, st2⟩ := newPE (aty := .byte) X1 hx hZ (w21 hw) e1 (g := (mkF m 4 #[vi 4] [(.int 8)])) rfl (hb y d27_4) rfl (by decide) (cap := 8) (by decide) (by decide) (by decide) (by decide) (ad := "[B") rfl
  have kq2 := own_fbn A2 Ex2 hfb
  rw [kq2] at A2
  obtain ⟨b2, g2⟩ : ∃ z, z = h0.size := ⟨_, rfl⟩
  rw [← g2] at A2 st2
  refine Gl.of st2 ?_
  have Gb2 : n0 ≤ b2 := Nat.le_trans (O0.1 ▸ O0.2.1) (Nat.le_of_eq g2.symm)
  have Jb2 : h0.size ≤ b2 := Nat.le_trans K0.1 (Nat.le_of_eq g2.symm)
  have O2 := O0.ext E2
  have K2 := K0.ext E2
  have V2 : Arv Z h2 b2 kB .byte (8 : Int32) [(.int 0), (.int 0), (.int 0), (.int 0), (.int 0), (.int 0), (.int 0), (.int 0)] (.int 0) := (Arv.new A2 (by decide)).pad (pad_rep [] (.int 0) 8)
  show Gf p e below _ T2 m 6 #[vi 4] [(.ref b2)]
  exact Gl.retR X2 hx hlk hret rfl rfl (hb y d27_6) e2 (⟨_, rfl, V2, K2, (Fr.nil n0), Gb2, Jb2⟩) (by decide) (by decide)
theorem rmB4 {l : Launch} {Z : State} {a0 : Array Value} (hw : HW Z a0) {h0 : Heap} (a1 : Addr) (kk1 kB : ClassId) (c0 c1 c2 c3 : Int32) (n0 : Nat) (hfb : Z.vm.findClass "[B" = some kB) (V1 : Arv Z h0 a1 kk1 .char (4 : Int32) [.int c0, .int c1, .int c2, .int c3] (.int 0)) (Sa : sSa Z) (Sh : sSh Z) (Sl : sSl Z) (O0 : Old Z n0 h0) : Con l Z my4 bc17 5 (some (.array .byte)) [] (ro 2 1 8 26) 1 8 #[(.ref a1), (.int 0), (.int 4)] h0 (fun v h L => ∃ r, v = some (.ref r) ∧ Arv Z h r kB .byte (8 : Int32) [.int (oh c0), .int (ol c0), .int (oh c1), .int (ol c1), .int (oh c2), .int (ol c2), .int (oh c3), .int (ol c3)] (.int 0) ∧ Keep h0 h [] ∧ Fr n0 L ∧ n0 ≤ r ∧ h0.size ≤ r) := by
  refine Con.intro (plainFor_of_name pn_0) ?_
  intro p e s m below meth c s₁ X0 hx y hml hZ hown hnm hret hlk e0 hs0
  refine gs (fun _ k => castTop (ef_4 m a1 (0 : Int32) (4 : Int32)) k) ?_
  have K0 := Keep.refl h0 []
  show Gf p e below _ s₁ m 0 #[vr a1, vi 0, vi 4, vu, vu] []
  refine gs (fun _ k => XS.iloadN X0.here hx rfl (hb y d26_0) rfl k) ?_
  refine Gl.callS X0 hx hZ (y := my3) hown (w138 hw) (w139 hw) (w19 hw) (w140 hw) (desc_ne (by decide)) (rm := ro 1 1 8 13) (argsL := [(.int 4)]) (rest := []) (rmF4 hw kB n0 hfb O0) 0 (by decide) (by decide) (by decide) (by decide) e0 hml.symm pd_1 rfl rfl (Nat.le_of_eq rfl) (hb y d26_1) ?_
  intro v1 T1 L1 X1 hQ1
  obtain ⟨r1, rfl, Vq1, Kq1, Nq1, Gr1, H1⟩ := hQ1
  have N1 := Fr.app (Fr.nil n0) Nq1
  have ne_a1_r1 : a1 ≠ r1 := Nat.ne_of_lt (Nat.lt_of_lt_of_le V1.lt H1)
  have Jr1 : h0.size ≤ r1 := Nat.le_trans K0.1 H1
  have vc2 := V1.keep Kq1 (by simp)
  have O1 := O0.keep Kq1 all0
  have K1 := K0.trans Kq1 (by intro x hx'; exact nomatch hx')
  show Gf p e below _ T1 m 4 #[vr a1, vi 0, vi 4, vu, vu] [(.ref r1)]
  refine gs (fun _ k => XS.astoreN X1.here hx rfl (hb y d26_4) rfl rfl (l' := #[vr a1, vi 0, vi 4, vr r1, vu]) rfl (XS.iconst X1.here hx rfl (hb y d26_5) (XS.istore X1.here hx rfl (hb y d26_6) rfl (l' := #[vr a1, vi 0, vi 4, vr r1, vi 0]) rfl (XS.iload X1.here hx rfl (hb y d26_8) rfl (XS.iloadN X1.here hx rfl (hb y d26_10) rfl (XS.icmpNo X1.here hx rfl (hb y d26_11) rfl (tlt (by decide : (0 : Int32) < (4 : Int32))).2.1 k)))))) ?_
  show Gf p e below _ T1 m 14 #[vr a1, vi 0, vi 4, vr r1, vi 0] []
  refine gs (fun _ k => XS.aloadN X1.here hx rfl (hb y d26_14) rfl rfl (XS.iload X1.here hx rfl (hb y d26_15) rfl (XS.aloadN X1.here hx rfl (hb y d26_17) rfl rfl (XS.iloadN X1.here hx rfl (hb y d26_18) rfl k)))) ?_
  obtain ⟨zcl3, zAr3, zq3, zS3, zM3, zH3, zG3⟩ := id vc2
  refine gs (fun _ k => X1.caload hx (j := (0 : Int32)) (v := (.int c0)) (zAr3).1 (State.isArrayOf_alike hZ.alike (zAr3).2.1) (zAr3).2.2 (inb_of zS3 ⟨by decide, by decide⟩) (zH3 0 (by rw [zS3]; decide)) (g := (mkF m 19 #[vr a1, vi 0, vi 4, vr r1, vi 0] [(.int 0), (.ref a1), (.int 0), (.ref r1)])) rfl rfl (hb y d26_19) _ k) ?_
  show Gf p e below _ T1 m 20 #[vr a1, vi 0, vi 4, vr r1, vi 0] [(.int c0), (.int 0), (.ref r1)]
  refine Gl.callS X1 hx hZ (y := my1) hown (w145 hw) (w146 hw) (w19 hw) (w147 hw) (desc_ne (by decide)) (rm := ro 0 0 0 0) (argsL := [(.ref r1), (.int 0), (.int c0)]) (rest := []) (rmP80 hw r1 kB (0 : Int32) (0 : Int32) (0 : Int32) (0 : Int32) (0 : Int32) (0 : Int32) (0 : Int32) (0 : Int32) c0 n0 Vq1 Gr1 Sa Sh Sl O1) 0 (by decide) (by decide) (by decide) (by decide) rfl hml.symm pd_2 rfl rfl (Nat.le_of_eq rfl) (hb y d26_20) ?_
  intro v4 T4 L4 X4 hQ4
  obtain ⟨rfl, Nq4, Kq4, Vq4⟩ := hQ4
  have N4 := Fr.app N1 Nq4
  have vc5 := vc2.keep Kq4 (fun q => ne_a1_r1 (List.mem_singleton.mp q))
  have O4 := O1.keep Kq4 (allS Gr1 all0)
  have K4 := K1.trans Kq4 (by intro x hx'; cases List.mem_singleton.mp hx'; exact Or.inr Jr1)
  show Gf p e below _ T4 m 23 #[vr a1, vi 0, vi 4, vr r1, vi 0] []
  refine gs (fun _ k => XS.iinc X4.here hx rfl (hb y d26_23) rfl (l' := #[vr a1, vi 1, vi 4, vr r1, vi 0]) rfl (XS.iinc X4.here hx rfl (hb y d26_26) rfl (l' := #[vr a1, vi 1, vi 4, vr r1, vi 1]) rfl (XS.goto X4.here hx rfl (pc0 := 29) (pc' := 8) rfl (hb y d26_29) (by decide) (by decide) (XS.iload X4.here hx rfl (hb y d26_8) rfl (XS.iloadN X4.here hx rfl (hb y d26_10) rfl (XS.icmpNo X4.here hx rfl (hb y d26_11) rfl (tlt (by decide : (1 : Int32) < (4 : Int32))).2.1 k)))))) ?_
  show Gf p e below _ T4 m 14 #[vr a1, vi 1, vi 4, vr r1, vi 1] []
  refine gs (fun _ k => XS.aloadN X4.here hx rfl (hb y d26_14) rfl rfl (XS.iload X4.here hx rfl (hb y d26_15) rfl (XS.aloadN X4.here hx rfl (hb y d26_17) rfl rfl (XS.iloadN X4.here hx rfl (hb y d26_18) rfl k)))) ?_
  obtain ⟨zcl6, zAr6, zq6, zS6, zM6, zH6, zG6⟩ := id vc5
  refine gs (fun _ k => X4.caload hx (j := (1 : Int32)) (v := (.int c1)) (zAr6).1 (State.isArrayOf_alike hZ.alike (zAr6).2.1) (zAr6).2.2 (inb_of zS6 ⟨by decide, by decide⟩) (zH6 1 (by rw [zS6]; decide)) (g := (mkF m 19 #[vr a1, vi 1, vi 4, vr r1, vi 1] [(.int 1), (.ref a1), (.int 1), (.ref r1)])) rfl rfl (hb y d26_19) _ k) ?_
  show Gf p e below _ T4 m 20 #[vr a1, vi 1, vi 4, vr r1, vi 1] [(.int c1), (.int 1), (.ref r1)]
  refine Gl.callS X4 hx hZ (y := my1) hown (w145 hw) (w146 hw) (w19 hw) (w147 hw) (desc_ne (by decide)) (rm := ro 0 0 0 0) (argsL := [(.ref r1), (.int 1), (.int c1)]) (rest := []) (rmP81 hw r1 kB (oh c0) (ol c0) (0 : Int32) (0 : Int32) (0 : Int32) (0 : Int32) (0 : Int32) (0 : Int32) c1 n0 Vq4 Gr1 Sa Sh Sl O4) 0 (by decide) (by decide) (by decide) (by decide) rfl hml.symm pd_2 rfl rfl (Nat.le_of_eq rfl) (hb y d26_20) ?_
  intro v7 T7 L7 X7 hQ7
  obtain ⟨rfl, Nq7, Kq7, Vq7⟩ := hQ7
  have N7 := Fr.app N4 Nq7
  have vc8 := vc5.keep Kq7 (fun q => ne_a1_r1 (List.mem_singleton.mp q))
  have O7 := O4.keep Kq7 (allS Gr1 all0)
  have K7 := K4.trans Kq7 (by intro x hx'; cases List.mem_singleton.mp hx'; exact Or.inr Jr1)
  show Gf p e below _ T7 m 23 #[vr a1, vi 1, vi 4, vr r1, vi 1] []
  refine gs (fun _ k => XS.iinc X7.here hx rfl (hb y d26_23) rfl (l' := #[vr a1, vi 2, vi 4, vr r1, vi 1]) rfl (XS.iinc X7.here hx rfl (hb y d26_26) rfl (l' := #[vr a1, vi 2, vi 4, vr r1, vi 2]) rfl (XS.goto X7.here hx rfl (pc0 := 29) (pc' := 8) rfl (hb y d26_29) (by decide) (by decide) (XS.iload X7.here hx rfl (hb y d26_8) rfl (XS.iloadN X7.here hx rfl (hb y d26_10) rfl (XS.icmpNo X7.here hx rfl (hb y d26_11) rfl (tlt (by decide : (2 : Int32) < (4 : Int32))).2.1 k)))))) ?_
  show Gf p e below _ T7 m 14 #[vr a1, vi 2, vi 4, vr r1, vi 2] []
  refine gs (fun _ k => XS.aloadN X7.here hx rfl (hb y d26_14) rfl rfl (XS.iload X7.here hx rfl (hb y d26_15) rfl (XS.aloadN X7.here hx rfl (hb y d26_17) rfl rfl (XS.iloadN X7.here hx rfl (hb y d26_18) rfl k)))) ?_
  obtain ⟨zcl9, zAr9, zq9, zS9, zM9, zH9, zG9⟩ := id vc8
  refine gs (fun _ k => X7.caload hx (j := (2 : Int32)) (v := (.int c2)) (zAr9).1 (State.isArrayOf_alike hZ.alike (zAr9).2.1) (zAr9).2.2 (inb_of zS9 ⟨by decide, by decide⟩) (zH9 2 (by rw [zS9]; decide)) (g := (mkF m 19 #[vr a1, vi 2, vi 4, vr r1, vi 2] [(.int 2), (.ref a1), (.int 2), (.ref r1)])) rfl rfl (hb y d26_19) _ k) ?_
  show Gf p e below _ T7 m 20 #[vr a1, vi 2, vi 4, vr r1, vi 2] [(.int c2), (.int 2), (.ref r1)]
  refine Gl.callS X7 hx hZ (y := my1) hown (w145 hw) (w146 hw) (w19 hw) (w147 hw) (desc_ne (by decide)) (rm := ro 0 0 0 0) (argsL := [(.ref r1), (.int 2), (.int c2)]) (rest := []) (rmP82 hw r1 kB (oh c0) (ol c0) (oh c1) (ol c1) (0 : Int32) (0 : Int32) (0 : Int32) (0 : Int32) c2 n0 Vq7 Gr1 Sa Sh Sl O7) 0 (by decide) (by decide) (by decide) (by decide) rfl hml.symm pd_2 rfl rfl (Nat.le_of_eq rfl) (hb y d26_20) ?_
  intro v10 T10 L10 X10 hQ10
  obtain ⟨rfl, Nq10, Kq10, Vq10⟩ := hQ10
  have N10 := Fr.app N7 Nq10
  have vc11 := vc8.keep Kq10 (fun q => ne_a1_r1 (List.mem_singleton.mp q))
  have O10 := O7.keep Kq10 (allS Gr1 all0)
  have K10 := K7.trans Kq10 (by intro x hx'; cases List.mem_singleton.mp hx'; exact Or.inr Jr1)
  show Gf p e below _ T10 m 23 #[vr a1, vi 2, vi 4, vr r1, vi 2] []
  refine gs (fun _ k => XS.iinc X10.here hx rfl (hb y d26_23) rfl (l' := #[vr a1, vi 3, vi 4, vr r1, vi 2]) rfl (XS.iinc X10.here hx rfl (hb y d26_26) rfl (l' := #[vr a1, vi 3, vi 4, vr r1, vi 3]) rfl (XS.goto X10.here hx rfl (pc0 := 29) (pc' := 8) rfl (hb y d26_29) (by decide) (by decide) (XS.iload X10.here hx rfl (hb y d26_8) rfl (XS.iloadN X10.here hx rfl (hb y d26_10) rfl (XS.icmpNo X10.here hx rfl (hb y d26_11) rfl (tlt (by decide : (3 : Int32) < (4 : Int32))).2.1 k)))))) ?_
  show Gf p e below _ T10 m 14 #[vr a1, vi 3, vi 4, vr r1, vi 3] []
  refine gs (fun _ k => XS.aloadN X10.here hx rfl (hb y d26_14) rfl rfl (XS.iload X10.here hx rfl (hb y d26_15) rfl (XS.aloadN X10.here hx rfl (hb y d26_17) rfl rfl (XS.iloadN X10.here hx rfl (hb y d26_18) rfl k)))) ?_
  obtain ⟨zcl12, zAr12, zq12, zS12, zM12, zH12, zG12⟩ := id vc11
  refine gs (fun _ k => X10.caload hx (j := (3 : Int32)) (v := (.int c3)) (zAr12).1 (State.isArrayOf_alike hZ.alike (zAr12).2.1) (zAr12).2.2 (inb_of zS12 ⟨by decide, by decide⟩) (zH12 3 (by rw [zS12]; decide)) (g := (mkF m 19 #[vr a1, vi 3, vi 4, vr r1, vi 3] [(.int 3), (.ref a1), (.int 3), (.ref r1)])) rfl rfl (hb y d26_19) _ k) ?_
  show Gf p e below _ T10 m 20 #[vr a1, vi 3, vi 4, vr r1, vi 3] [(.int c3), (.int 3), (.ref r1)]
  refine Gl.callS X10 hx hZ (y := my1) hown (w145 hw) (w146 hw) (w19 hw) (w147 hw) (desc_ne (by decide)) (rm := ro 0 0 0 0) (argsL := [(.ref r1), (.int 3), (.int c3)]) (rest := []) (rmP83 hw r1 kB (oh c0) (ol c0) (oh c1) (ol c1) (oh c2) (ol c2) (0 : Int32) (0 : Int32) c3 n0 Vq10 Gr1 Sa Sh Sl O10) 0 (by decide) (by decide) (by decide) (by decide) rfl hml.symm pd_2 rfl rfl (Nat.le_of_eq rfl) (hb y d26_20) ?_
  intro v13 T13 L13 X13 hQ13
  obtain ⟨rfl, Nq13, Kq13, Vq13⟩ := hQ13
  have N13 := Fr.app N10 Nq13
  have vc14 := vc11.keep Kq13 (fun q => ne_a1_r1 (List.mem_singleton.mp q))
  have O13 := O10.keep Kq13 (allS Gr1 all0)
  have K13 := K10.trans Kq13 (by intro x hx'; cases List.mem_singleton.mp hx'; exact Or.inr Jr1)
  show Gf p e below _ T13 m 23 #[vr a1, vi 3, vi 4, vr r1, vi 3] []
  refine gs (fun _ k => XS.iinc X13.here hx rfl (hb y d26_23) rfl (l' := #[vr a1, vi 4, vi 4, vr r1, vi 3]) rfl (XS.iinc X13.here hx rfl (hb y d26_26) rfl (l' := #[vr a1, vi 4, vi 4, vr r1, vi 4]) rfl (XS.goto X13.here hx rfl (pc0 := 29) (pc' := 8) rfl (hb y d26_29) (by decide) (by decide) (XS.iload X13.here hx rfl (hb y d26_8) rfl (XS.iloadN X13.here hx rfl (hb y d26_10) rfl (XS.icmpYes X13.here hx rfl (pc0 := 11) (pc' := 32) rfl (hb y d26_11) rfl (flt (by decide : ¬ ((4 : Int32) < (4 : Int32)))).2.1 (by decide) (by decide) k)))))) ?_
  show Gf p e below _ T13 m 32 #[vr a1, vi 4, vi 4, vr r1, vi 4] []
  refine gs (fun _ k => XS.aloadN X13.here hx rfl (hb y d26_32) rfl rfl k) ?_
  exact Gl.retR X13 hx hlk hret rfl rfl (hb y d26_33) rfl (⟨_, rfl, Vq13, K13, N13, Gr1, Jr1⟩) (by decide) (by decide)
theorem rmG40 {l : Launch} {Z : State} {a0 : Array Value} (hw : HW Z a0) {h0 : Heap} (a1 : Addr) (kB : ClassId) (c0 c1 c2 c3 : Int32) (n0 : Nat) (V1 : Arv Z h0 a1 kB .byte (8 : Int32) [.int (oh c0), .int (ol c0), .int (oh c1), .int (ol c1), .int (oh c2), .int (ol c2), .int (oh c3), .int (ol c3)] (.int 0)) (hr : rg c0) (Sa : sSa Z) (Sh : sSh Z) (Sl : sSl Z) (O0 : Old Z n0 h0) : Con l Z my5 bc26 2 (some .char) [] (ro 0 0 0 0) 0 0 #[(.ref a1), (.int 0)] h0 (Pur (fun v => v = some (.int c0)) h0) := by
  refine Con.intro (plainFor_of_name pn_0) ?_
  intro p e s m below meth c s₁ X0 hx y hml hZ hown hnm hret hlk e0 hs0
  refine gs (fun _ k => castTop (ef_5 m a1 (0 : Int32)) k) ?_
  show Gf p e below _ s₁ m 0 #[vr a1, vi 0] []
  obtain ⟨T1, X1, e1, st1⟩ := getS2 X0 hx hZ hown (host := "") (Or.inl (w148 hw)) Via.refl e0 (Sa.ext O0.2) (g := (mkF m 0 #[vr a1, vi 0] [])) rfl (hb y d30_0)
  refine Gl.of st1 ?_
  show Gf p e below _ T1 m 3 #[vr a1, vi 0] [(.int 1)]
  refine gs (fun _ k => XS.ifYes X1.here hx rfl (pc0 := 3) (pc' := 28) rfl (hb y d30_3) rfl ((if0 _ _).trans (feq (by decide : ¬ ((1 : Int32) = (0 : Int32)))).2) (by decide) (by decide) (XS.iloadN X1.here hx rfl (hb y d30_28) rfl (XS.iconst X1.here hx rfl (hb y d30_29) (XS.ishl X1.here hx rfl (hb y d30_30) rfl k)))) ?_
  show Gf p e below _ T1 m 31 #[vr a1, vi 0] [(.int 0)]
  refine gs (fun _ k => XS.istoreN X1.here hx rfl (hb y d30_31) rfl (l' := #[vr a1, vi 0]) rfl (XS.aloadN X1.here hx rfl (hb y d30_32) rfl rfl (XS.iloadN X1.here hx rfl (hb y d30_33) rfl (XS.iinc X1.here hx rfl (hb y d30_34) rfl (l' := #[vr a1, vi 1]) rfl k)))) ?_
  obtain ⟨zcl2, zAr2, zq2, zS2, zM2, zH2, zG2⟩ := id V1
  refine gs (fun _ k => X1.baloadBytes hx (j := (0 : Int32)) (v := (.int (oh c0))) (by rw [e1]; exact (zAr2).1) (State.isArrayOf_alike hZ.alike (zAr2).2.1) (zAr2).2.2 (inb_of zS2 ⟨by decide, by decide⟩) (zH2 0 (by rw [zS2]; decide)) (g := (mkF m 37 #[vr a1, vi 1] [(.int 0), (.ref a1)])) rfl rfl (hb y d30_37) _ k) ?_
  show Gf p e below _ T1 m 38 #[vr a1, vi 1] [(.int (oh c0))]
  refine gs (fun _ k => XS.sipush X1.here hx rfl (hb y d30_38) (XS.iand X1.here hx rfl (hb y d30_41) rfl k)) ?_
  obtain ⟨T3, X3, e3, st3⟩ := getS2 X1 hx hZ hown (host := "") (Or.inl (w149 hw)) Via.refl e1 (Sh.ext O0.2) (g := (mkF m 42 #[vr a1, vi 1] [(.int ((oh c0) &&& (255 : Int32)))])) rfl (hb y d30_42)
  refine Gl.of st3 ?_
  show Gf p e below _ T3 m 45 #[vr a1, vi 1] [(.int 0), (.int ((oh c0) &&& (255 : Int32)))]
  refine gs (fun _ k => XS.ishl X3.here hx rfl (hb y d30_45) rfl (XS.aloadN X3.here hx rfl (hb y d30_46) rfl rfl (XS.iloadN X3.here hx rfl (hb y d30_47) rfl k))) ?_
  obtain ⟨zcl4, zAr4, zq4, zS4, zM4, zH4, zG4⟩ := id V1
  refine gs (fun _ k => X3.baloadBytes hx (j := (1 : Int32)) (v := (.int (ol c0))) (by rw [e3]; exact (zAr4).1) (State.isArrayOf_alike hZ.alike (zAr4).2.1) (zAr4).2.2 (inb_of zS4 ⟨by decide, by decide⟩) (zH4 1 (by rw [zS4]; decide)) (g := (mkF m 48 #[vr a1, vi 1] [(.int 1), (.ref a1), (.int (((oh c0) &&& (255 : Int32)) <<< ((0 : Int32) &&& 31)))])) rfl rfl (hb y d30_48) _ k) ?_
  show Gf p e below _ T3 m 49 #[vr a1, vi 1] [(.int (ol c0)), (.int (((oh c0) &&& (255 : Int32)) <<< ((0 : Int32) &&& 31)))]
  refine gs (fun _ k => XS.sipush X3.here hx rfl (hb y d30_49) (XS.iand X3.here hx rfl (hb y d30_52) rfl k)) ?_
  obtain ⟨T5, X5, e5, st5⟩ := getS2 X3 hx hZ hown (host := "") (Or.inl (w150 hw)) Via.refl e3 (Sl.ext O0.2) (g := (mkF m 53 #[vr a1, vi 1] [(.int ((ol c0) &&& (255 : Int32))), (.int (((oh c0) &&& (255 : Int32)) <<< ((0 : Int32) &&& 31)))])) rfl (hb y d30_53)
  refine Gl.of st5 ?_
  show Gf p e below _ T5 m 56 #[vr a1, vi 1] [(.int 8), (.int ((ol c0) &&& (255 : Int32))), (.int (((oh c0) &&& (255 : Int32)) <<< ((0 : Int32) &&& 31)))]
  refine gs (fun _ k => XS.ishl X5.here hx rfl (hb y d30_56) rfl (XS.ior X5.here hx rfl (hb y d30_57) rfl (XS.i2c X5.here hx rfl (hb y d30_58) rfl k))) ?_
  exact Gl.retN X5 hx hlk hret (by simp) (hb y d30_59) e5 (⟨congrArg (fun z => some (Value.int z)) (own_gch hr), rfl, rfl⟩) (by decide) (by decide)
theorem rmG41 {l : Launch} {Z : State} {a0 : Array Value} (hw : HW Z a0) {h0 : Heap} (a1 : Addr) (kB : ClassId) (c0 c1 c2 c3 : Int32) (n0 : Nat) (V1 : Arv Z h0 a1 kB .byte (8 : Int32) [.int (oh c0), .int (ol c0), .int (oh c1), .int (ol c1), .int (oh c2), .int (ol c2), .int (oh c3), .int (ol c3)] (.int 0)) (hr : rg c1) (Sa : sSa Z) (Sh : sSh Z) (Sl : sSl Z) (O0 : Old Z n0 h0) : Con l Z my5 bc26 2 (some .char) [] (ro 0 0 0 0) 0 0 #[(.ref a1), (.int 1)] h0 (Pur (fun v => v = some (.int c1)) h0) := by
  refine Con.intro (plainFor_of_name pn_0) ?_
  intro p e s m below meth c s₁ X0 hx y hml hZ hown hnm hret hlk e0 hs0
  refine gs (fun _ k => castTop (ef_5 m a1 (1 : Int32)) k) ?_
  show Gf p e below _ s₁ m 0 #[vr a1, vi 1] []
  obtain ⟨T1, X1, e1, st1⟩ := getS2 X0 hx hZ hown (host := "") (Or.inl (w148 hw)) Via.refl e0 (Sa.ext O0.2) (g := (mkF m 0 #[vr a1, vi 1] [])) rfl (hb y d30_0)
  refine Gl.of st1 ?_
  show Gf p e below _ T1 m 3 #[vr a1, vi 1] [(.int 1)]
  refine gs (fun _ k => XS.ifYes X1.here hx rfl (pc0 := 3) (pc' := 28) rfl (hb y d30_3) rfl ((if0 _ _).trans (feq (by decide : ¬ ((1 : Int32) = (0 : Int32)))).2) (by decide) (by decide) (XS.iloadN X1.here hx rfl (hb y d30_28) rfl (XS.iconst X1.here hx rfl (hb y d30_29) (XS.ishl X1.here hx rfl (hb y d30_30) rfl k)))) ?_
  show Gf p e below _ T1 m 31 #[vr a1, vi 1] [(.int 2)]
  refine gs (fun _ k => XS.istoreN X1.here hx rfl (hb y d30_31) rfl (l' := #[vr a1, vi 2]) rfl (XS.aloadN X1.here hx rfl (hb y d30_32) rfl rfl (XS.iloadN X1.here hx rfl (hb y d30_33) rfl (XS.iinc X1.here hx rfl (hb y d30_34) rfl (l' := #[vr a1, vi 3]) rfl k)))) ?_
  obtain ⟨zcl2, zAr2, zq2, zS2, zM2, zH2, zG2⟩ := id V1
  refine gs (fun _ k => X1.baloadBytes hx (j := (2 : Int32)) (v := (.int (oh c1))) (by rw [e1]; exact (zAr2).1) (State.isArrayOf_alike hZ.alike (zAr2).2.1) (zAr2).2.2 (inb_of zS2 ⟨by decide, by decide⟩) (zH2 2 (by rw [zS2]; decide)) (g := (mkF m 37 #[vr a1, vi 3] [(.int 2), (.ref a1)])) rfl rfl (hb y d30_37) _ k) ?_
  show Gf p e below _ T1 m 38 #[vr a1, vi 3] [(.int (oh c1))]
  refine gs (fun _ k => XS.sipush X1.here hx rfl (hb y d30_38) (XS.iand X1.here hx rfl (hb y d30_41) rfl k)) ?_
  obtain ⟨T3, X3, e3, st3⟩ := getS2 X1 hx hZ hown (host := "") (Or.inl (w149 hw)) Via.refl e1 (Sh.ext O0.2) (g := (mkF m 42 #[vr a1, vi 3] [(.int ((oh c1) &&& (255 : Int32)))])) rfl (hb y d30_42)
  refine Gl.of st3 ?_
  show Gf p e below _ T3 m 45 #[vr a1, vi 3] [(.int 0), (.int ((oh c1) &&& (255 : Int32)))]
  refine gs (fun _ k => XS.ishl X3.here hx rfl (hb y d30_45) rfl (XS.aloadN X3.here hx rfl (hb y d30_46) rfl rfl (XS.iloadN X3.here hx rfl (hb y d30_47) rfl k))) ?_
  obtain ⟨zcl4, zAr4, zq4, zS4, zM4, zH4, zG4⟩ := id V1
  refine gs (fun _ k => X3.baloadBytes hx (j := (3 : Int32)) (v := (.int (ol c1))) (by rw [e3]; exact (zAr4).1) (State.isArrayOf_alike hZ.alike (zAr4).2.1) (zAr4).2.2 (inb_of zS4 ⟨by decide, by decide⟩) (zH4 3 (by rw [zS4]; decide)) (g := (mkF m 48 #[vr a1, vi 3] [(.int 3), (.ref a1), (.int (((oh c1) &&& (255 : Int32)) <<< ((0 : Int32) &&& 31)))])) rfl rfl (hb y d30_48) _ k) ?_
  show Gf p e below _ T3 m 49 #[vr a1, vi 3] [(.int (ol c1)), (.int (((oh c1) &&& (255 : Int32)) <<< ((0 : Int32) &&& 31)))]
  refine gs (fun _ k => XS.sipush X3.here hx rfl (hb y d30_49) (XS.iand X3.here hx rfl (hb y d30_52) rfl k)) ?_
  obtain ⟨T5, X5, e5, st5⟩ := getS2 X3 hx hZ hown (host := "") (Or.inl (w150 hw)) Via.refl e3 (Sl.ext O0.2) (g := (mkF m 53 #[vr a1, vi 3] [(.int ((ol c1) &&& (255 : Int32))), (.int (((oh c1) &&& (255 : Int32)) <<< ((0 : Int32) &&& 31)))])) rfl (hb y d30_53)
  refine Gl.of st5 ?_
  show Gf p e below _ T5 m 56 #[vr a1, vi 3] [(.int 8), (.int ((ol c1) &&& (255 : Int32))), (.int (((oh c1) &&& (255 : Int32)) <<< ((0 : Int32) &&& 31)))]
  refine gs (fun _ k => XS.ishl X5.here hx rfl (hb y d30_56) rfl (XS.ior X5.here hx rfl (hb y d30_57) rfl (XS.i2c X5.here hx rfl (hb y d30_58) rfl k))) ?_
  exact Gl.retN X5 hx hlk hret (by simp) (hb y d30_59) e5 (⟨congrArg (fun z => some (Value.int z)) (own_gch hr), rfl, rfl⟩) (by decide) (by decide)
theorem rmG42 {l : Launch} {Z : State} {a0 : Array Value} (hw : HW Z a0) {h0 : Heap} (a1 : Addr) (kB : ClassId) (c0 c1 c2 c3 : Int32) (n0 : Nat) (V1 : Arv Z h0 a1 kB .byte (8 : Int32) [.int (oh c0), .int (ol c0), .int (oh c1), .int (ol c1), .int (oh c2), .int (ol c2), .int (oh c3), .int (ol c3)] (.int 0)) (hr : rg c2) (Sa : sSa Z) (Sh : sSh Z) (Sl : sSl Z) (O0 : Old Z n0 h0) : Con l Z my5 bc26 2 (some .char) [] (ro 0 0 0 0) 0 0 #[(.ref a1), (.int 2)] h0 (Pur (fun v => v = some (.int c2)) h0) := by
  refine Con.intro (plainFor_of_name pn_0) ?_
  intro p e s m below meth c s₁ X0 hx y hml hZ hown hnm hret hlk e0 hs0
  refine gs (fun _ k => castTop (ef_5 m a1 (2 : Int32)) k) ?_
  show Gf p e below _ s₁ m 0 #[vr a1, vi 2] []
  obtain ⟨T1, X1, e1, st1⟩ := getS2 X0 hx hZ hown (host := "") (Or.inl (w148 hw)) Via.refl e0 (Sa.ext O0.2) (g := (mkF m 0 #[vr a1, vi 2] [])) rfl (hb y d30_0)
  refine Gl.of st1 ?_
  show Gf p e below _ T1 m 3 #[vr a1, vi 2] [(.int 1)]
  refine gs (fun _ k => XS.ifYes X1.here hx rfl (pc0 := 3) (pc' := 28) rfl (hb y d30_3) rfl ((if0 _ _).trans (feq (by decide : ¬ ((1 : Int32) = (0 : Int32)))).2) (by decide) (by decide) (XS.iloadN X1.here hx rfl (hb y d30_28) rfl (XS.iconst X1.here hx rfl (hb y d30_29) (XS.ishl X1.here hx rfl (hb y d30_30) rfl k)))) ?_
  show Gf p e below _ T1 m 31 #[vr a1, vi 2] [(.int 4)]
  refine gs (fun _ k => XS.istoreN X1.here hx rfl (hb y d30_31) rfl (l' := #[vr a1, vi 4]) rfl (XS.aloadN X1.here hx rfl (hb y d30_32) rfl rfl (XS.iloadN X1.here hx rfl (hb y d30_33) rfl (XS.iinc X1.here hx rfl (hb y d30_34) rfl (l' := #[vr a1, vi 5]) rfl k)))) ?_
  obtain ⟨zcl2, zAr2, zq2, zS2, zM2, zH2, zG2⟩ := id V1
  refine gs (fun _ k => X1.baloadBytes hx (j := (4 : Int32)) (v := (.int (oh c2))) (by rw [e1]; exact (zAr2).1) (State.isArrayOf_alike hZ.alike (zAr2).2.1) (zAr2).2.2 (inb_of zS2 ⟨by decide, by decide⟩) (zH2 4 (by rw [zS2]; decide)) (g := (mkF m 37 #[vr a1, vi 5] [(.int 4), (.ref a1)])) rfl rfl (hb y d30_37) _ k) ?_
  show Gf p e below _ T1 m 38 #[vr a1, vi 5] [(.int (oh c2))]
  refine gs (fun _ k => XS.sipush X1.here hx rfl (hb y d30_38) (XS.iand X1.here hx rfl (hb y d30_41) rfl k)) ?_
  obtain ⟨T3, X3, e3, st3⟩ := getS2 X1 hx hZ hown (host := "") (Or.inl (w149 hw)) Via.refl e1 (Sh.ext O0.2) (g := (mkF m 42 #[vr a1, vi 5] [(.int ((oh c2) &&& (255 : Int32)))])) rfl (hb y d30_42)
  refine Gl.of st3 ?_
  show Gf p e below _ T3 m 45 #[vr a1, vi 5] [(.int 0), (.int ((oh c2) &&& (255 : Int32)))]
  refine gs (fun _ k => XS.ishl X3.here hx rfl (hb y d30_45) rfl (XS.aloadN X3.here hx rfl (hb y d30_46) rfl rfl (XS.iloadN X3.here hx rfl (hb y d30_47) rfl k))) ?_
  obtain ⟨zcl4, zAr4, zq4, zS4, zM4, zH4, zG4⟩ := id V1
  refine gs (fun _ k => X3.baloadBytes hx (j := (5 : Int32)) (v := (.int (ol c2))) (by rw [e3]; exact (zAr4).1) (State.isArrayOf_alike hZ.alike (zAr4).2.1) (zAr4).2.2 (inb_of zS4 ⟨by decide, by decide⟩) (zH4 5 (by rw [zS4]; decide)) (g := (mkF m 48 #[vr a1, vi 5] [(.int 5), (.ref a1), (.int (((oh c2) &&& (255 : Int32)) <<< ((0 : Int32) &&& 31)))])) rfl rfl (hb y d30_48) _ k) ?_
  show Gf p e below _ T3 m 49 #[vr a1, vi 5] [(.int (ol c2)), (.int (((oh c2) &&& (255 : Int32)) <<< ((0 : Int32) &&& 31)))]
  refine gs (fun _ k => XS.sipush X3.here hx rfl (hb y d30_49) (XS.iand X3.here hx rfl (hb y d30_52) rfl k)) ?_
  obtain ⟨T5, X5, e5, st5⟩ := getS2 X3 hx hZ hown (host := "") (Or.inl (w150 hw)) Via.refl e3 (Sl.ext O0.2) (g := (mkF m 53 #[vr a1, vi 5] [(.int ((ol c2) &&& (255 : Int32))), (.int (((oh c2) &&& (255 : Int32)) <<< ((0 : Int32) &&& 31)))])) rfl (hb y d30_53)
  refine Gl.of st5 ?_
  show Gf p e below _ T5 m 56 #[vr a1, vi 5] [(.int 8), (.int ((ol c2) &&& (255 : Int32))), (.int (((oh c2) &&& (255 : Int32)) <<< ((0 : Int32) &&& 31)))]
  refine gs (fun _ k => XS.ishl X5.here hx rfl (hb y d30_56) rfl (XS.ior X5.here hx rfl (hb y d30_57) rfl (XS.i2c X5.here hx rfl (hb y d30_58) rfl k))) ?_
  exact Gl.retN X5 hx hlk hret (by simp) (hb y d30_59) e5 (⟨congrArg (fun z => some (Value.int z)) (own_gch hr), rfl, rfl⟩) (by decide) (by decide)
theorem rmG43 {l : Launch} {Z : State} {a0 : Array Value} (hw : HW Z a0) {h0 : Heap} (a1 : Addr) (kB : ClassId) (c0 c1 c2 c3 : Int32) (n0 : Nat) (V1 : Arv Z h0 a1 kB .byte (8 : Int32) [.int (oh c0), .int (ol c0), .int (oh c1), .int (ol c1), .int (oh c2), .int (ol c2), .int (oh c3), .int (ol c3)] (.int 0)) (hr : rg c3) (Sa : sSa Z) (Sh : sSh Z) (Sl : sSl Z) (O0 : Old Z n0 h0) : Con l Z my5 bc26 2 (some .char) [] (ro 0 0 0 0) 0 0 #[(.ref a1), (.int 3)] h0 (Pur (fun v => v = some (.int c3)) h0) := by
  refine Con.intro (plainFor_of_name pn_0) ?_
  intro p e s m below meth c s₁ X0 hx y hml hZ hown hnm hret hlk e0 hs0
  refine gs (fun _ k => castTop (ef_5 m a1 (3 : Int32)) k) ?_
  show Gf p e below _ s₁ m 0 #[vr a1, vi 3] []
  obtain ⟨T1, X1, e1, st1⟩ := getS2 X0 hx hZ hown (host := "") (Or.inl (w148 hw)) Via.refl e0 (Sa.ext O0.2) (g := (mkF m 0 #[vr a1, vi 3] [])) rfl (hb y d30_0)
  refine Gl.of st1 ?_
  show Gf p e below _ T1 m 3 #[vr a1, vi 3] [(.int 1)]
  refine gs (fun _ k => XS.ifYes X1.here hx rfl (pc0 := 3) (pc' := 28) rfl (hb y d30_3) rfl ((if0 _ _).trans (feq (by decide : ¬ ((1 : Int32) = (0 : Int32)))).2) (by decide) (by decide) (XS.iloadN X1.here hx rfl (hb y d30_28) rfl (XS.iconst X1.here hx rfl (hb y d30_29) (XS.ishl X1.here hx rfl (hb y d30_30) rfl k)))) ?_
  show Gf p e below _ T1 m 31 #[vr a1, vi 3] [(.int 6)]
  refine gs (fun _ k => XS.istoreN X1.here hx rfl (hb y d30_31) rfl (l' := #[vr a1, vi 6]) rfl (XS.aloadN X1.here hx rfl (hb y d30_32) rfl rfl (XS.iloadN X1.here hx rfl (hb y d30_33) rfl (XS.iinc X1.here hx rfl (hb y d30_34) rfl (l' := #[vr a1, vi 7]) rfl k)))) ?_
  obtain ⟨zcl2, zAr2, zq2, zS2, zM2, zH2, zG2⟩ := id V1
  refine gs (fun _ k => X1.baloadBytes hx (j := (6 : Int32)) (v := (.int (oh c3))) (by rw [e1]; exact (zAr2).1) (State.isArrayOf_alike hZ.alike (zAr2).2.1) (zAr2).2.2 (inb_of zS2 ⟨by decide, by decide⟩) (zH2 6 (by rw [zS2]; decide)) (g := (mkF m 37 #[vr a1, vi 7] [(.int 6), (.ref a1)])) rfl rfl (hb y d30_37) _ k) ?_
  show Gf p e below _ T1 m 38 #[vr a1, vi 7] [(.int (oh c3))]
  refine gs (fun _ k => XS.sipush X1.here hx rfl (hb y d30_38) (XS.iand X1.here hx rfl (hb y d30_41) rfl k)) ?_
  obtain ⟨T3, X3, e3, st3⟩ := getS2 X1 hx hZ hown (host := "") (Or.inl (w149 hw)) Via.refl e1 (Sh.ext O0.2) (g := (mkF m 42 #[vr a1, vi 7] [(.int ((oh c3) &&& (255 : Int32)))])) rfl (hb y d30_42)
  refine Gl.of st3 ?_
  show Gf p e below _ T3 m 45 #[vr a1, vi 7] [(.int 0), (.int ((oh c3) &&& (255 : Int32)))]
  refine gs (fun _ k => XS.ishl X3.here hx rfl (hb y d30_45) rfl (XS.aloadN X3.here hx rfl (hb y d30_46) rfl rfl (XS.iloadN X3.here hx rfl (hb y d30_47) rfl k))) ?_
  obtain ⟨zcl4, zAr4, zq4, zS4, zM4, zH4, zG4⟩ := id V1
  refine gs (fun _ k => X3.baloadBytes hx (j := (7 : Int32)) (v := (.int (ol c3))) (by rw [e3]; exact (zAr4).1) (State.isArrayOf_alike hZ.alike (zAr4).2.1) (zAr4).2.2 (inb_of zS4 ⟨by decide, by decide⟩) (zH4 7 (by rw [zS4]; decide)) (g := (mkF m 48 #[vr a1, vi 7] [(.int 7), (.ref a1), (.int (((oh c3) &&& (255 : Int32)) <<< ((0 : Int32) &&& 31)))])) rfl rfl (hb y d30_48) _ k) ?_
  show Gf p e below _ T3 m 49 #[vr a1, vi 7] [(.int (ol c3)), (.int (((oh c3) &&& (255 : Int32)) <<< ((0 : Int32) &&& 31)))]
  refine gs (fun _ k => XS.sipush X3.here hx rfl (hb y d30_49) (XS.iand X3.here hx rfl (hb y d30_52) rfl k)) ?_
  obtain ⟨T5, X5, e5, st5⟩ := getS2 X3 hx hZ hown (host := "") (Or.inl (w150 hw)) Via.refl e3 (Sl.ext O0.2) (g := (mkF m 53 #[vr a1, vi 7] [(.int ((ol c3) &&& (255 : Int32))), (.int (((oh c3) &&& (255 : Int32)) <<< ((0 : Int32) &&& 31)))])) rfl (hb y d30_53)
  refine Gl.of st5 ?_
  show Gf p e below _ T5 m 56 #[vr a1, vi 7] [(.int 8), (.int ((ol c3) &&& (255 : Int32))), (.int (((oh c3) &&& (255 : Int32)) <<< ((0 : Int32) &&& 31)))]
  refine gs (fun _ k => XS.ishl X5.here hx rfl (hb y d30_56) rfl (XS.ior X5.here hx rfl (hb y d30_57) rfl (XS.i2c X5.here hx rfl (hb y d30_58) rfl k))) ?_
  exact Gl.retN X5 hx hlk hret (by simp) (hb y d30_59) e5 (⟨congrArg (fun z => some (Value.int z)) (own_gch hr), rfl, rfl⟩) (by decide) (by decide)
theorem rmK4 {l : Launch} {Z : State} {a0 : Array Value} (hw : HW Z a0) {h0 : Heap} (a1 a2 : Addr) (kk1 kB : ClassId) (c0 c1 c2 c3 : Int32) (n0 : Nat) (V1 : Arv Z h0 a1 kk1 .char (4 : Int32) [.int c0, .int c1, .int c2, .int c3] (.int 0)) (V2 : Arv Z h0 a2 kB .byte (4 : Int32) [.int (0 : Int32), .int (0 : Int32), .int (0 : Int32), .int (0 : Int32)] (.int 0)) (hne : ¬ a1 = a2) (Ga2 : n0 ≤ a2) (O0 : Old Z n0 h0) : Con l Z my6 bc21 7 (some .int) [] (ro 0 0 0 0) 0 0 #[(.ref a1), (.int 0), (.ref a2), (.int 0), (.int 4)] h0 (fun v h L => ∃ r vs, v = some (.int r) ∧ Fr n0 L ∧ Keep h0 h [a2] ∧ Arv Z h a2 kB .byte (4 : Int32) vs (.int 0) ∧ ((r = (4 : Int32) ∧ vs = [.int (o8 c0), .int (o8 c1), .int (o8 c2), .int (o8 c3)] ∧ (¬ (255 : Int32) < c0 ∧ ¬ (255 : Int32) < c1 ∧ ¬ (255 : Int32) < c2 ∧ ¬ (255 : Int32) < c3)) ∨ (r = (0 : Int32) ∧ (255 : Int32) < c0) ∨ (r = (1 : Int32) ∧ (255 : Int32) < c1) ∨ (r = (2 : Int32) ∧ (255 : Int32) < c2) ∨ (r = (3 : Int32) ∧ (255 : Int32) < c3))) := by
  refine Con.intro (plainFor_of_name pn_0) ?_
  intro p e s m below meth c s₁ X0 hx y hml hZ hown hnm hret hlk e0 hs0
  refine gs (fun _ k => castTop (ef_6 m a1 (0 : Int32) a2 (0 : Int32) (4 : Int32)) k) ?_
  have K0 := Keep.refl h0 [a2]
  show Gf p e below _ s₁ m 0 #[vr a1, vi 0, vr a2, vi 0, vi 4, vu, vu] []
  refine gs (fun _ k => XS.iconst X0.here hx rfl (hb y d5_0) (XS.istore X0.here hx rfl (hb y d5_1) rfl (l' := #[vr a1, vi 0, vr a2, vi 0, vi 4, vi 0, vu]) rfl (XS.iload X0.here hx rfl (hb y d5_3) rfl (XS.iload X0.here hx rfl (hb y d5_5) rfl (XS.icmpNo X0.here hx rfl (hb y d5_7) rfl (tlt (by decide : (0 : Int32) < (4 : Int32))).2.1 (XS.aloadN X0.here hx rfl (hb y d5_10) rfl rfl k)))))) ?_
  show Gf p e below _ s₁ m 11 #[vr a1, vi 0, vr a2, vi 0, vi 4, vi 0, vu] [(.ref a1)]
  refine gs (fun _ k => XS.iloadN X0.here hx rfl (hb y d5_11) rfl k) ?_
  obtain ⟨zcl1, zAr1, zq1, zS1, zM1, zH1, zG1⟩ := id V1
  refine gs (fun _ k => X0.caload hx (j := (0 : Int32)) (v := (.int c0)) (by rw [e0]; exact (zAr1).1) (State.isArrayOf_alike hZ.alike (zAr1).2.1) (zAr1).2.2 (inb_of zS1 ⟨by decide, by decide⟩) (zH1 0 (by rw [zS1]; decide)) (g := (mkF m 12 #[vr a1, vi 0, vr a2, vi 0, vi 4, vi 0, vu] [(.int 0), (.ref a1)])) rfl rfl (hb y d5_12) _ k) ?_
  show Gf p e below _ s₁ m 13 #[vr a1, vi 0, vr a2, vi 0, vi 4, vi 0, vu] [(.int c0)]
  refine gs (fun _ k => XS.istore X0.here hx rfl (hb y d5_13) rfl (l' := #[vr a1, vi 0, vr a2, vi 0, vi 4, vi 0, vi c0]) rfl (XS.iload X0.here hx rfl (hb y d5_15) rfl (XS.sipush X0.here hx rfl (hb y d5_17) k))) ?_
  by_cases hc20_2 : (255 : Int32) < c0
  · refine Gl.of (fun _ kq_ => XS.icmpNo X0.here hx rfl (hb y d5_20) rfl (tlt hc20_2).2.2.2 kq_) ?_
    refine gs (fun _ k => XS.iload X0.here hx rfl (hb y d5_23) rfl k) ?_
    exact Gl.retI X0 hx hlk hret (hb y d5_25) e0 (⟨_, _, rfl, (Fr.nil n0), K0, V2, Or.inr (Or.inl ⟨rfl, hc20_2⟩)⟩) (by decide) (by decide)
  · refine Gl.of (fun _ kq_ => XS.icmpYes X0.here hx rfl (pc0 := 20) (pc' := 26) rfl (hb y d5_20) rfl (flt hc20_2).2.2.2 (by decide) (by decide) kq_) ?_
    refine gs (fun _ k => XS.aloadN X0.here hx rfl (hb y d5_26) rfl rfl (XS.iloadN X0.here hx rfl (hb y d5_27) rfl k)) ?_
    show Gf p e below _ s₁ m 28 #[vr a1, vi 0, vr a2, vi 0, vi 4, vi 0, vi c0] [(.int 0), (.ref a2)]
    refine gs (fun _ k => XS.iload X0.here hx rfl (hb y d5_28) rfl (XS.i2b X0.here hx rfl (hb y d5_30) rfl k)) ?_
    obtain ⟨zcl3, zAr3, zq3, zS3, zM3, zH3, zG3⟩ := id V2
    obtain ⟨T4, h4, X4, e4, W4, st4⟩ := stB X0 hx hZ e0 zAr3 (j := (0 : Int32)) (inb_of zS3 ⟨by decide, by decide⟩) (g := (mkF m 31 #[vr a1, vi 0, vr a2, vi 0, vi 4, vi 0, vi c0] [(.int (c0.toInt8.toInt32)), (.int 0), (.ref a2)])) rfl rfl (hb y d5_31)
    refine Gl.of st4 ?_
    have V4 : Arv Z h4 a2 kB .byte (4 : Int32) [(.int (nar .byte (c0.toInt8.toInt32))), (.int 0), (.int 0), (.int 0)] (.int 0) := Arv.set zAr3 zq3 zS3 zM3 zH3 zG3 (fits_nar_byte _) W4 0 rfl (Nat.le_of_ble_eq_true rfl)
    have vc5 := V1.other W4 hne
    have N4 := Fr.snoc X4 (Fr.nil n0) Ga2
    have O4 := O0.wr W4 Ga2
    have K4 := K0.wr W4 (Or.inl (List.mem_of_getElem? (i := 0) rfl))
    show Gf p e below _ T4 m 32 #[vr a1, vi 0, vr a2, vi 0, vi 4, vi 0, vi c0] []
    refine gs (fun _ k => XS.iinc X4.here hx rfl (hb y d5_32) rfl (l' := #[vr a1, vi 1, vr a2, vi 0, vi 4, vi 0, vi c0]) rfl (XS.iinc X4.here hx rfl (hb y d5_35) rfl (l' := #[vr a1, vi 1, vr a2, vi 1, vi 4, vi 0, vi c0]) rfl (XS.iinc X4.here hx rfl (hb y d5_38) rfl (l' := #[vr a1, vi 1, vr a2, vi 1, vi 4, vi 1, vi c0]) rfl (XS.goto X4.here hx rfl (pc0 := 41) (pc' := 3) rfl (hb y d5_41) (by decide) (by decide) (XS.iload X4.here hx rfl (hb y d5_3) rfl (XS.iload X4.here hx rfl (hb y d5_5) rfl k)))))) ?_
    show Gf p e below _ T4 m 7 #[vr a1, vi 1, vr a2, vi 1, vi 4, vi 1, vi c0] [(.int 4), (.int 1)]
    refine gs (fun _ k => XS.icmpNo X4.here hx rfl (hb y d5_7) rfl (tlt (by decide : (1 : Int32) < (4 : Int32))).2.1 (XS.aloadN X4.here hx rfl (hb y d5_10) rfl rfl (XS.iloadN X4.here hx rfl (hb y d5_11) rfl k))) ?_
    obtain ⟨zcl6, zAr6, zq6, zS6, zM6, zH6, zG6⟩ := id vc5
    refine gs (fun _ k => X4.caload hx (j := (1 : Int32)) (v := (.int c1)) (by rw [e4]; exact (zAr6).1) (State.isArrayOf_alike hZ.alike (zAr6).2.1) (zAr6).2.2 (inb_of zS6 ⟨by decide, by decide⟩) (zH6 1 (by rw [zS6]; decide)) (g := (mkF m 12 #[vr a1, vi 1, vr a2, vi 1, vi 4, vi 1, vi c0] [(.int 1), (.ref a1)])) rfl rfl (hb y d5_12) _ k) ?_
    show Gf p e below _ T4 m 13 #[vr a1, vi 1, vr a2, vi 1, vi 4, vi 1, vi c0] [(.int c1)]
    refine gs (fun _ k => XS.istore X4.here hx rfl (hb y d5_13) rfl (l' := #[vr a1, vi 1, vr a2, vi 1, vi 4, vi 1, vi c1]) rfl (XS.iload X4.here hx rfl (hb y d5_15) rfl (XS.sipush X4.here hx rfl (hb y d5_17) k))) ?_
    by_cases hc20_7 : (255 : Int32) < c1
    · refine Gl.of (fun _ kq_ => XS.icmpNo X4.here hx rfl (hb y d5_20) rfl (tlt hc20_7).2.2.2 kq_) ?_
      refine gs (fun _ k => XS.iload X4.here hx rfl (hb y d5_23) rfl k) ?_
      exact Gl.retI X4 hx hlk hret (hb y d5_25) e4 (⟨_, _, rfl, N4, K4, V4, Or.inr (Or.inr (Or.inl ⟨rfl, hc20_7⟩))⟩) (by decide) (by decide)
    · refine Gl.of (fun _ kq_ => XS.icmpYes X4.here hx rfl (pc0 := 20) (pc' := 26) rfl (hb y d5_20) rfl (flt hc20_7).2.2.2 (by decide) (by decide) kq_) ?_
      refine gs (fun _ k => XS.aloadN X4.here hx rfl (hb y d5_26) rfl rfl (XS.iloadN X4.here hx rfl (hb y d5_27) rfl k)) ?_
      show Gf p e below _ T4 m 28 #[vr a1, vi 1, vr a2, vi 1, vi 4, vi 1, vi c1] [(.int 1), (.ref a2)]
      refine gs (fun _ k => XS.iload X4.here hx rfl (hb y d5_28) rfl (XS.i2b X4.here hx rfl (hb y d5_30) rfl k)) ?_
      obtain ⟨zcl8, zAr8, zq8, zS8, zM8, zH8, zG8⟩ := id V4
      obtain ⟨T9, h9, X9, e9, W9, st9⟩ := stB X4 hx hZ e4 zAr8 (j := (1 : Int32)) (inb_of zS8 ⟨by decide, by decide⟩) (g := (mkF m 31 #[vr a1, vi 1, vr a2, vi 1, vi 4, vi 1, vi c1] [(.int (c1.toInt8.toInt32)), (.int 1), (.ref a2)])) rfl rfl (hb y d5_31)
      refine Gl.of st9 ?_
      have V9 : Arv Z h9 a2 kB .byte (4 : Int32) [(.int (nar .byte (c0.toInt8.toInt32))), (.int (nar .byte (c1.toInt8.toInt32))), (.int 0), (.int 0)] (.int 0) := Arv.set zAr8 zq8 zS8 zM8 zH8 zG8 (fits_nar_byte _) W9 1 rfl (Nat.le_of_ble_eq_true rfl)
      have vc10 := vc5.other W9 hne
      have N9 := Fr.snoc X9 N4 Ga2
      have O9 := O4.wr W9 Ga2
      have K9 := K4.wr W9 (Or.inl (List.mem_of_getElem? (i := 0) rfl))
      show Gf p e below _ T9 m 32 #[vr a1, vi 1, vr a2, vi 1, vi 4, vi 1, vi c1] []
      refine gs (fun _ k => XS.iinc X9.here hx rfl (hb y d5_32) rfl (l' := #[vr a1, vi 2, vr a2, vi 1, vi 4, vi 1, vi c1]) rfl (XS.iinc X9.here hx rfl (hb y d5_35) rfl (l' := #[vr a1, vi 2, vr a2, vi 2, vi 4, vi 1, vi c1]) rfl (XS.iinc X9.here hx rfl (hb y d5_38) rfl (l' := #[vr a1, vi 2, vr a2, vi 2, vi 4, vi 2, vi c1]) rfl (XS.goto X9.here hx rfl (pc0 := 41) (pc' := 3) rfl (hb y d5_41) (by decide) (by decide) (XS.iload X9.here hx rfl (hb y d5_3) rfl (XS.iload X9.here hx rfl (hb y d5_5) rfl k)))))) ?_
      show Gf p e below _ T9 m 7 #[vr a1, vi 2, vr a2, vi 2, vi 4, vi 2, vi c1] [(.int 4), (.int 2)]
      refine gs (fun _ k => XS.icmpNo X9.here hx rfl (hb y d5_7) rfl (tlt (by decide : (2 : Int32) < (4 : Int32))).2.1 (XS.aloadN X9.here hx rfl (hb y d5_10) rfl rfl (XS.iloadN X9.here hx rfl (hb y d5_11) rfl k))) ?_
      obtain ⟨zcl11, zAr11, zq11, zS11, zM11, zH11, zG11⟩ := id vc10
      refine gs (fun _ k => X9.caload hx (j := (2 : Int32)) (v := (.int c2)) (by rw [e9]; exact (zAr11).1) (State.isArrayOf_alike hZ.alike (zAr11).2.1) (zAr11).2.2 (inb_of zS11 ⟨by decide, by decide⟩) (zH11 2 (by rw [zS11]; decide)) (g := (mkF m 12 #[vr a1, vi 2, vr a2, vi 2, vi 4, vi 2, vi c1] [(.int 2), (.ref a1)])) rfl rfl (hb y d5_12) _ k) ?_
      show Gf p e below _ T9 m 13 #[vr a1, vi 2, vr a2, vi 2, vi 4, vi 2, vi c1] [(.int c2)]
      refine gs (fun _ k => XS.istore X9.here hx rfl (hb y d5_13) rfl (l' := #[vr a1, vi 2, vr a2, vi 2, vi 4, vi 2, vi c2]) rfl (XS.iload X9.here hx rfl (hb y d5_15) rfl (XS.sipush X9.here hx rfl (hb y d5_17) k))) ?_
      by_cases hc20_12 : (255 : Int32) < c2
      · refine Gl.of (fun _ kq_ => XS.icmpNo X9.here hx rfl (hb y d5_20) rfl (tlt hc20_12).2.2.2 kq_) ?_
        refine gs (fun _ k => XS.iload X9.here hx rfl (hb y d5_23) rfl k) ?_
        exact Gl.retI X9 hx hlk hret (hb y d5_25) e9 (⟨_, _, rfl, N9, K9, V9, Or.inr (Or.inr (Or.inr (Or.inl ⟨rfl, hc20_12⟩)))⟩) (by decide) (by decide)
      · refine Gl.of (fun _ kq_ => XS.icmpYes X9.here hx rfl (pc0 := 20) (pc' := 26) rfl (hb y d5_20) rfl (flt hc20_12).2.2.2 (by decide) (by decide) kq_) ?_
        refine gs (fun _ k => XS.aloadN X9.here hx rfl (hb y d5_26) rfl rfl (XS.iloadN X9.here hx rfl (hb y d5_27) rfl k)) ?_
        show Gf p e below _ T9 m 28 #[vr a1, vi 2, vr a2, vi 2, vi 4, vi 2, vi c2] [(.int 2), (.ref a2)]
        refine gs (fun _ k => XS.iload X9.here hx rfl (hb y d5_28) rfl (XS.i2b X9.here hx rfl (hb y d5_30) rfl k)) ?_
        obtain ⟨zcl13, zAr13, zq13, zS13, zM13, zH13, zG13⟩ := id V9
        obtain ⟨T14, h14, X14, e14, W14, st14⟩ := stB X9 hx hZ e9 zAr13 (j := (2 : Int32)) (inb_of zS13 ⟨by decide, by decide⟩) (g := (mkF m 31 #[vr a1, vi 2, vr a2, vi 2, vi 4, vi 2, vi c2] [(.int (c2.toInt8.toInt32)), (.int 2), (.ref a2)])) rfl rfl (hb y d5_31)
        refine Gl.of st14 ?_
        have V14 : Arv Z h14 a2 kB .byte (4 : Int32) [(.int (nar .byte (c0.toInt8.toInt32))), (.int (nar .byte (c1.toInt8.toInt32))), (.int (nar .byte (c2.toInt8.toInt32))), (.int 0)] (.int 0) := Arv.set zAr13 zq13 zS13 zM13 zH13 zG13 (fits_nar_byte _) W14 2 rfl (Nat.le_of_ble_eq_true rfl)
        have vc15 := vc10.other W14 hne
        have N14 := Fr.snoc X14 N9 Ga2
        have O14 := O9.wr W14 Ga2
        have K14 := K9.wr W14 (Or.inl (List.mem_of_getElem? (i := 0) rfl))
        show Gf p e below _ T14 m 32 #[vr a1, vi 2, vr a2, vi 2, vi 4, vi 2, vi c2] []
        refine gs (fun _ k => XS.iinc X14.here hx rfl (hb y d5_32) rfl (l' := #[vr a1, vi 3, vr a2, vi 2, vi 4, vi 2, vi c2]) rfl (XS.iinc X14.here hx rfl (hb y d5_35) rfl (l' := #[vr a1, vi 3, vr a2, vi 3, vi 4, vi 2, vi c2]) rfl (XS.iinc X14.here hx rfl (hb y d5_38) rfl (l' := #[vr a1, vi 3, vr a2, vi 3, vi 4, vi 3, vi c2]) rfl (XS.goto X14.here hx rfl (pc0 := 41) (pc' := 3) rfl (hb y d5_41) (by decide) (by decide) (XS.iload X14.here hx rfl (hb y d5_3) rfl (XS.iload X14.here hx rfl (hb y d5_5) rfl k)))))) ?_
        show Gf p e below _ T14 m 7 #[vr a1, vi 3, vr a2, vi 3, vi 4, vi 3, vi c2] [(.int 4), (.int 3)]
        refine gs (fun _ k => XS.icmpNo X14.here hx rfl (hb y d5_7) rfl (tlt (by decide : (3 : Int32) < (4 : Int32))).2.1 (XS.aloadN X14.here hx rfl (hb y d5_10) rfl rfl (XS.iloadN X14.here hx rfl (hb y d5_11) rfl k))) ?_
        obtain ⟨zcl16, zAr16, zq16, zS16, zM16, zH16, zG16⟩ := id vc15
        refine gs (fun _ k => X14.caload hx (j := (3 : Int32)) (v := (.int c3)) (by rw [e14]; exact (zAr16).1) (State.isArrayOf_alike hZ.alike (zAr16).2.1) (zAr16).2.2 (inb_of zS16 ⟨by decide, by decide⟩) (zH16 3 (by rw [zS16]; decide)) (g := (mkF m 12 #[vr a1, vi 3, vr a2, vi 3, vi 4, vi 3, vi c2] [(.int 3), (.ref a1)])) rfl rfl (hb y d5_12) _ k) ?_
        show Gf p e below _ T14 m 13 #[vr a1, vi 3, vr a2, vi 3, vi 4, vi 3, vi c2] [(.int c3)]
        refine gs (fun _ k => XS.istore X14.here hx rfl (hb y d5_13) rfl (l' := #[vr a1, vi 3, vr a2, vi 3, vi 4, vi 3, vi c3]) rfl (XS.iload X14.here hx rfl (hb y d5_15) rfl (XS.sipush X14.here hx rfl (hb y d5_17) k))) ?_
        by_cases hc20_17 : (255 : Int32) < c3
        · refine Gl.of (fun _ kq_ => XS.icmpNo X14.here hx rfl (hb y d5_20) rfl (tlt hc20_17).2.2.2 kq_) ?_
          refine gs (fun _ k => XS.iload X14.here hx rfl (hb y d5_23) rfl k) ?_
          exact Gl.retI X14 hx hlk hret (hb y d5_25) e14 (⟨_, _, rfl, N14, K14, V14, Or.inr (Or.inr (Or.inr (Or.inr (⟨rfl, hc20_17⟩))))⟩) (by decide) (by decide)
        · refine Gl.of (fun _ kq_ => XS.icmpYes X14.here hx rfl (pc0 := 20) (pc' := 26) rfl (hb y d5_20) rfl (flt hc20_17).2.2.2 (by decide) (by decide) kq_) ?_
          refine gs (fun _ k => XS.aloadN X14.here hx rfl (hb y d5_26) rfl rfl (XS.iloadN X14.here hx rfl (hb y d5_27) rfl k)) ?_
          show Gf p e below _ T14 m 28 #[vr a1, vi 3, vr a2, vi 3, vi 4, vi 3, vi c3] [(.int 3), (.ref a2)]
          refine gs (fun _ k => XS.iload X14.here hx rfl (hb y d5_28) rfl (XS.i2b X14.here hx rfl (hb y d5_30) rfl k)) ?_
          obtain ⟨zcl18, zAr18, zq18, zS18, zM18, zH18, zG18⟩ := id V14
          obtain ⟨T19, h19, X19, e19, W19, st19⟩ := stB X14 hx hZ e14 zAr18 (j := (3 : Int32)) (inb_of zS18 ⟨by decide, by decide⟩) (g := (mkF m 31 #[vr a1, vi 3, vr a2, vi 3, vi 4, vi 3, vi c3] [(.int (c3.toInt8.toInt32)), (.int 3), (.ref a2)])) rfl rfl (hb y d5_31)
          refine Gl.of st19 ?_
          have V19 : Arv Z h19 a2 kB .byte (4 : Int32) [(.int (nar .byte (c0.toInt8.toInt32))), (.int (nar .byte (c1.toInt8.toInt32))), (.int (nar .byte (c2.toInt8.toInt32))), (.int (nar .byte (c3.toInt8.toInt32)))] (.int 0) := Arv.set zAr18 zq18 zS18 zM18 zH18 zG18 (fits_nar_byte _) W19 3 rfl (Nat.le_of_ble_eq_true rfl)
          have vc20 := vc15.other W19 hne
          have N19 := Fr.snoc X19 N14 Ga2
          have O19 := O14.wr W19 Ga2
          have K19 := K14.wr W19 (Or.inl (List.mem_of_getElem? (i := 0) rfl))
          show Gf p e below _ T19 m 32 #[vr a1, vi 3, vr a2, vi 3, vi 4, vi 3, vi c3] []
          refine gs (fun _ k => XS.iinc X19.here hx rfl (hb y d5_32) rfl (l' := #[vr a1, vi 4, vr a2, vi 3, vi 4, vi 3, vi c3]) rfl (XS.iinc X19.here hx rfl (hb y d5_35) rfl (l' := #[vr a1, vi 4, vr a2, vi 4, vi 4, vi 3, vi c3]) rfl (XS.iinc X19.here hx rfl (hb y d5_38) rfl (l' := #[vr a1, vi 4, vr a2, vi 4, vi 4, vi 4, vi c3]) rfl (XS.goto X19.here hx rfl (pc0 := 41) (pc' := 3) rfl (hb y d5_41) (by decide) (by decide) (XS.iload X19.here hx rfl (hb y d5_3) rfl (XS.iload X19.here hx rfl (hb y d5_5) rfl k)))))) ?_
          show Gf p e below _ T19 m 7 #[vr a1, vi 4, vr a2, vi 4, vi 4, vi 4, vi c3] [(.int 4), (.int 4)]
          refine gs (fun _ k => XS.icmpYes X19.here hx rfl (pc0 := 7) (pc' := 44) rfl (hb y d5_7) rfl (flt (by decide : ¬ ((4 : Int32) < (4 : Int32)))).2.1 (by decide) (by decide) (XS.iload X19.here hx rfl (hb y d5_44) rfl k)) ?_
          exact Gl.retI X19 hx hlk hret (hb y d5_46) e19 (⟨_, _, rfl, N19, K19, V19, Or.inl ⟨rfl, rfl, hc20_2, hc20_7, hc20_12, hc20_17⟩⟩) (by decide) (by decide)
theorem rmC4 {l : Launch} {Z : State} {a0 : Array Value} (hw : HW Z a0) {h0 : Heap} (a1 : Addr) (kk1 kB : ClassId) (c0 c1 c2 c3 : Int32) (n0 : Nat) (hfb : Z.vm.findClass "[B" = some kB) (V1 : Arv Z h0 a1 kk1 .char (4 : Int32) [.int c0, .int c1, .int c2, .int c3] (.int 0)) (hr0 : rg c0) (hr1 : rg c1) (hr2 : rg c2) (hr3 : rg c3) (Sa : sSa Z) (Sh : sSh Z) (Sl : sSl Z) (O0 : Old Z n0 h0) : Con l Z my7 bc19 6 (some (.array .byte)) [] (ro 3 2 12 45) 2 12 #[(.ref a1), (.int 0), (.int 4)] h0 (fun v h L => ∃ r, v = some (.ref r) ∧ ((Arv Z h r kB .byte (4 : Int32) [.int (o8 c0), .int (o8 c1), .int (o8 c2), .int (o8 c3)] (.int 0) ∧ (¬ (255 : Int32) < c0 ∧ ¬ (255 : Int32) < c1 ∧ ¬ (255 : Int32) < c2 ∧ ¬ (255 : Int32) < c3)) ∨ Arv Z h r kB .byte (8 : Int32) [.int (oh c0), .int (ol c0), .int (oh c1), .int (ol c1), .int (oh c2), .int (ol c2), .int (oh c3), .int (ol c3)] (.int 0)) ∧ Keep h0 h [] ∧ Fr n0 L ∧ n0 ≤ r ∧ h0.size ≤ r) := by
  refine Con.intro (plainFor_of_name pn_0) ?_
  intro p e s m below meth c s₁ X0 hx y hml hZ hown hnm hret hlk e0 hs0
  refine gs (fun _ k => castTop (ef_7 m a1 (0 : Int32) (4 : Int32)) k) ?_
  have K0 := Keep.refl h0 []
  show Gf p e below _ s₁ m 0 #[vr a1, vi 0, vi 4, vu, vu, vu] []
  refine gs (fun _ k => XS.iloadN X0.here hx rfl (hb y d4_0) rfl k) ?_
  obtain ⟨T1, h1, k1, X1, e1, E1, A1, Ex1, st1⟩ := newPE (aty := .byte) X0 hx hZ (w21 hw) e0 (g := (mkF m 1 #[vr a1, vi 0, vi 4, vu, vu, vu] [(.int 4)])) rfl (hb y d4_1) rfl (by decide) (cap := 4) (by decide) (by decide) (by decide) (by decide) (ad := "[B") rfl
  have kq1 := own_fbn A1 Ex1 hfb
  rw [kq1] at A1
  obtain ⟨b1, g1⟩ : ∃ z, z = h0.size := ⟨_, rfl⟩
  rw [← g1] at A1 st1
  refine Gl.of st1 ?_
  have Gb1 : n0 ≤ b1 := Nat.le_trans (O0.1 ▸ O0.2.1) (Nat.le_of_eq g1.symm)
  have Jb1 : h0.size ≤ b1 := Nat.le_trans K0.1 (Nat.le_of_eq g1.symm)
  have ne_a1_b1 : a1 ≠ b1 := Nat.ne_of_lt (Nat.lt_of_lt_of_le V1.lt (Nat.le_of_eq g1.symm))
  have vc2 := V1.ext E1
  have O1 := O0.ext E1
  have K1 := K0.ext E1
  have V1 : Arv Z h1 b1 kB .byte (4 : Int32) [(.int 0), (.int 0), (.int 0), (.int 0)] (.int 0) := (Arv.new A1 (by decide)).pad (pad_rep [] (.int 0) 4)
  show Gf p e below _ T1 m 3 #[vr a1, vi 0, vi 4, vu, vu, vu] [(.ref b1)]
  refine gs (fun _ k => XS.astoreN X1.here hx rfl (hb y d4_3) rfl rfl (l' := #[vr a1, vi 0, vi 4, vr b1, vu, vu]) rfl (XS.aloadN X1.here hx rfl (hb y d4_4) rfl rfl (XS.iloadN X1.here hx rfl (hb y d4_5) rfl (XS.aloadN X1.here hx rfl (hb y d4_6) rfl rfl (XS.iconst X1.here hx rfl (hb y d4_7) (XS.iloadN X1.here hx rfl (hb y d4_8) rfl k)))))) ?_
  show Gf p e below _ T1 m 9 #[vr a1, vi 0, vi 4, vr b1, vu, vu] [(.int 4), (.int 0), (.ref b1), (.int 0), (.ref a1)]
  refine Gl.callS X1 hx hZ (y := my6) hown (w22 hw) (w23 hw) (w19 hw) (w24 hw) (desc_ne (by decide)) (rm := ro 0 0 0 0) (argsL := [(.ref a1), (.int 0), (.ref b1), (.int 0), (.int 4)]) (rest := []) (rmK4 hw a1 b1 kk1 kB c0 c1 c2 c3 n0 vc2 V1 ne_a1_b1 Gb1 O1) 0 (by decide) (by decide) (by decide) (by decide) e1 hml.symm pd_3 rfl rfl (Nat.le_of_eq rfl) (hb y d4_9) ?_
  intro v3 T3 L3 X3 hQ3
  obtain ⟨z3, vs3, rfl, Nq3, Kq3, Vq3, dj3⟩ := hQ3
  have N3 := Fr.app (Fr.nil n0) Nq3
  have vc4 := vc2.keep Kq3 (fun q => ne_a1_b1 (List.mem_singleton.mp q))
  have O3 := O1.keep Kq3 (allS Gb1 all0)
  have K3 := K1.trans Kq3 (by intro x hx'; cases List.mem_singleton.mp hx'; exact Or.inr Jb1)
  rcases dj3 with ⟨rfl, rfl, le3⟩ | ⟨rfl, hb3⟩ | ⟨rfl, hb3⟩ | ⟨rfl, hb3⟩ | ⟨rfl, hb3⟩
  · show Gf p e below _ T3 m 12 #[vr a1, vi 0, vi 4, vr b1, vu, vu] [(.int 4)]
    refine gs (fun _ k => XS.istore X3.here hx rfl (hb y d4_12) rfl (l' := #[vr a1, vi 0, vi 4, vr b1, vi 4, vu]) rfl (XS.iload X3.here hx rfl (hb y d4_14) rfl (XS.iloadN X3.here hx rfl (hb y d4_16) rfl (XS.icmpYes X3.here hx rfl (pc0 := 17) (pc' := 57) rfl (hb y d4_17) rfl (teq (by decide : (4 : Int32) = (4 : Int32))).1 (by decide) (by decide) (XS.aloadN X3.here hx rfl (hb y d4_57) rfl rfl k))))) ?_
    exact Gl.retR X3 hx hlk hret rfl rfl (hb y d4_58) rfl (⟨_, rfl, Or.inl ⟨Vq3, le3⟩, K3, N3, Gb1, Jb1⟩) (by decide) (by decide)
  · show Gf p e below _ T3 m 12 #[vr a1, vi 0, vi 4, vr b1, vu, vu] [(.int 0)]
    refine gs (fun _ k => XS.istore X3.here hx rfl (hb y d4_12) rfl (l' := #[vr a1, vi 0, vi 4, vr b1, vi 0, vu]) rfl (XS.iload X3.here hx rfl (hb y d4_14) rfl (XS.iloadN X3.here hx rfl (hb y d4_16) rfl (XS.icmpNo X3.here hx rfl (hb y d4_17) rfl (feq (by decide : ¬ ((0 : Int32) = (4 : Int32)))).1 (XS.aloadN X3.here hx rfl (hb y d4_20) rfl rfl (XS.iloadN X3.here hx rfl (hb y d4_21) rfl k)))))) ?_
    show Gf p e below _ T3 m 22 #[vr a1, vi 0, vi 4, vr b1, vi 0, vu] [(.int 0), (.ref a1)]
    refine gs (fun _ k => XS.iloadN X3.here hx rfl (hb y d4_22) rfl k) ?_
    refine Gl.callS X3 hx hZ (y := my4) hown (w135 hw) (w136 hw) (w19 hw) (w137 hw) (desc_ne (by decide)) (rm := ro 2 1 8 26) (argsL := [(.ref a1), (.int 0), (.int 4)]) (rest := []) (rmB4 hw a1 kk1 kB c0 c1 c2 c3 n0 hfb vc4 Sa Sh Sl O3) 0 (by decide) (by decide) (by decide) (by decide) rfl hml.symm pd_4 rfl rfl (Nat.le_of_eq rfl) (hb y d4_23) ?_
    intro v5 T5 L5 X5 hQ5
    obtain ⟨r5, rfl, Vq5, Kq5, Nq5, Gr5, H5⟩ := hQ5
    have N5 := Fr.app N3 Nq5
    have ne_a1_r5 : a1 ≠ r5 := Nat.ne_of_lt (Nat.lt_of_lt_of_le vc4.lt H5)
    have ne_b1_r5 : b1 ≠ r5 := Nat.ne_of_lt (Nat.lt_of_lt_of_le Vq3.lt H5)
    have Jr5 : h0.size ≤ r5 := Nat.le_trans K3.1 H5
    have vc6 := vc4.keep Kq5 (by simp)
    have vc7 := Vq3.keep Kq5 (by simp)
    have O5 := O3.keep Kq5 all0
    have K5 := K3.trans Kq5 (by intro x hx'; exact nomatch hx')
    show Gf p e below _ T5 m 26 #[vr a1, vi 0, vi 4, vr b1, vi 0, vu] [(.ref r5)]
    refine gs (fun _ k => XS.astore X5.here hx rfl (hb y d4_26) rfl rfl (l' := #[vr a1, vi 0, vi 4, vr b1, vi 0, vr r5]) rfl (XS.aload X5.here hx rfl (hb y d4_28) rfl rfl (XS.iload X5.here hx rfl (hb y d4_30) rfl k))) ?_
    refine Gl.callS0 X5 hx hZ (y := my5) hown (w151 hw) (w152 hw) (w19 hw) (w153 hw) (desc_ne (by decide)) (argsL := [(.ref r5), (.int 0)]) (rest := []) (rmG40 hw r5 kB c0 c1 c2 c3 n0 Vq5 hr0 Sa Sh Sl O5) 0 (by decide) (by decide) rfl hml.symm pd_5 rfl rfl (Nat.le_of_eq rfl) (hb y d4_32) (by decide) (by decide) ?_
    intro v8 T8 X8 e8 hv8
    subst hv8
    show Gf p e below _ T8 m 35 #[vr a1, vi 0, vi 4, vr b1, vi 0, vr r5] [(.int c0)]
    refine gs (fun _ k => XS.sipush X8.here hx rfl (hb y d4_35) (XS.icmpYes X8.here hx rfl (pc0 := 38) (pc' := 54) rfl (hb y d4_38) rfl (tlt hb3).2.2.1 (by decide) (by decide) (XS.aload X8.here hx rfl (hb y d4_54) rfl rfl k))) ?_
    exact Gl.retR X8 hx hlk hret rfl rfl (hb y d4_56) e8 (⟨_, rfl, Or.inr Vq5, K5, N5, Gr5, Jr5⟩) (by decide) (by decide)
  · show Gf p e below _ T3 m 12 #[vr a1, vi 0, vi 4, vr b1, vu, vu] [(.int 1)]
    refine gs (fun _ k => XS.istore X3.here hx rfl (hb y d4_12) rfl (l' := #[vr a1, vi 0, vi 4, vr b1, vi 1, vu]) rfl (XS.iload X3.here hx rfl (hb y d4_14) rfl (XS.iloadN X3.here hx rfl (hb y d4_16) rfl (XS.icmpNo X3.here hx rfl (hb y d4_17) rfl (feq (by decide : ¬ ((1 : Int32) = (4 : Int32)))).1 (XS.aloadN X3.here hx rfl (hb y d4_20) rfl rfl (XS.iloadN X3.here hx rfl (hb y d4_21) rfl k)))))) ?_
    show Gf p e below _ T3 m 22 #[vr a1, vi 0, vi 4, vr b1, vi 1, vu] [(.int 0), (.ref a1)]
    refine gs (fun _ k => XS.iloadN X3.here hx rfl (hb y d4_22) rfl k) ?_
    refine Gl.callS X3 hx hZ (y := my4) hown (w135 hw) (w136 hw) (w19 hw) (w137 hw) (desc_ne (by decide)) (rm := ro 2 1 8 26) (argsL := [(.ref a1), (.int 0), (.int 4)]) (rest := []) (rmB4 hw a1 kk1 kB c0 c1 c2 c3 n0 hfb vc4 Sa Sh Sl O3) 0 (by decide) (by decide) (by decide) (by decide) rfl hml.symm pd_4 rfl rfl (Nat.le_of_eq rfl) (hb y d4_23) ?_
    intro v9 T9 L9 X9 hQ9
    obtain ⟨r9, rfl, Vq9, Kq9, Nq9, Gr9, H9⟩ := hQ9
    have N9 := Fr.app N3 Nq9
    have ne_a1_r9 : a1 ≠ r9 := Nat.ne_of_lt (Nat.lt_of_lt_of_le vc4.lt H9)
    have ne_b1_r9 : b1 ≠ r9 := Nat.ne_of_lt (Nat.lt_of_lt_of_le Vq3.lt H9)
    have Jr9 : h0.size ≤ r9 := Nat.le_trans K3.1 H9
    have vc10 := vc4.keep Kq9 (by simp)
    have vc11 := Vq3.keep Kq9 (by simp)
    have O9 := O3.keep Kq9 all0
    have K9 := K3.trans Kq9 (by intro x hx'; exact nomatch hx')
    show Gf p e below _ T9 m 26 #[vr a1, vi 0, vi 4, vr b1, vi 1, vu] [(.ref r9)]
    refine gs (fun _ k => XS.astore X9.here hx rfl (hb y d4_26) rfl rfl (l' := #[vr a1, vi 0, vi 4, vr b1, vi 1, vr r9]) rfl (XS.aload X9.here hx rfl (hb y d4_28) rfl rfl (XS.iload X9.here hx rfl (hb y d4_30) rfl k))) ?_
    refine Gl.callS0 X9 hx hZ (y := my5) hown (w151 hw) (w152 hw) (w19 hw) (w153 hw) (desc_ne (by decide)) (argsL := [(.ref r9), (.int 1)]) (rest := []) (rmG41 hw r9 kB c0 c1 c2 c3 n0 Vq9 hr1 Sa Sh Sl O9) 0 (by decide) (by decide) rfl hml.symm pd_5 rfl rfl (Nat.le_of_eq rfl) (hb y d4_32) (by decide) (by decide) ?_
    intro v12 T12 X12 e12 hv12
    subst hv12
    show Gf p e below _ T12 m 35 #[vr a1, vi 0, vi 4, vr b1, vi 1, vr r9] [(.int c1)]
    refine gs (fun _ k => XS.sipush X12.here hx rfl (hb y d4_35) (XS.icmpYes X12.here hx rfl (pc0 := 38) (pc' := 54) rfl (hb y d4_38) rfl (tlt hb3).2.2.1 (by decide) (by decide) (XS.aload X12.here hx rfl (hb y d4_54) rfl rfl k))) ?_
    exact Gl.retR X12 hx hlk hret rfl rfl (hb y d4_56) e12 (⟨_, rfl, Or.inr Vq9, K9, N9, Gr9, Jr9⟩) (by decide) (by decide)
  · show Gf p e below _ T3 m 12 #[vr a1, vi 0, vi 4, vr b1, vu, vu] [(.int 2)]
    refine gs (fun _ k => XS.istore X3.here hx rfl (hb y d4_12) rfl (l' := #[vr a1, vi 0, vi 4, vr b1, vi 2, vu]) rfl (XS.iload X3.here hx rfl (hb y d4_14) rfl (XS.iloadN X3.here hx rfl (hb y d4_16) rfl (XS.icmpNo X3.here hx rfl (hb y d4_17) rfl (feq (by decide : ¬ ((2 : Int32) = (4 : Int32)))).1 (XS.aloadN X3.here hx rfl (hb y d4_20) rfl rfl (XS.iloadN X3.here hx rfl (hb y d4_21) rfl k)))))) ?_
    show Gf p e below _ T3 m 22 #[vr a1, vi 0, vi 4, vr b1, vi 2, vu] [(.int 0), (.ref a1)]
    refine gs (fun _ k => XS.iloadN X3.here hx rfl (hb y d4_22) rfl k) ?_
    refine Gl.callS X3 hx hZ (y := my4) hown (w135 hw) (w136 hw) (w19 hw) (w137 hw) (desc_ne (by decide)) (rm := ro 2 1 8 26) (argsL := [(.ref a1), (.int 0), (.int 4)]) (rest := []) (rmB4 hw a1 kk1 kB c0 c1 c2 c3 n0 hfb vc4 Sa Sh Sl O3) 0 (by decide) (by decide) (by decide) (by decide) rfl hml.symm pd_4 rfl rfl (Nat.le_of_eq rfl) (hb y d4_23) ?_
    intro v13 T13 L13 X13 hQ13
    obtain ⟨r13, rfl, Vq13, Kq13, Nq13, Gr13, H13⟩ := hQ13
    have N13 := Fr.app N3 Nq13
    have ne_a1_r13 : a1 ≠ r13 := Nat.ne_of_lt (Nat.lt_of_lt_of_le vc4.lt H13)
    have ne_b1_r13 : b1 ≠ r13 := Nat.ne_of_lt (Nat.lt_of_lt_of_le Vq3.lt H13)
    have Jr13 : h0.size ≤ r13 := Nat.le_trans K3.1 H13
    have vc14 := vc4.keep Kq13 (by simp)
    have vc15 := Vq3.keep Kq13 (by simp)
    have O13 := O3.keep Kq13 all0
    have K13 := K3.trans Kq13 (by intro x hx'; exact nomatch hx')
    show Gf p e below _ T13 m 26 #[vr a1, vi 0, vi 4, vr b1, vi 2, vu] [(.ref r13)]
    refine gs (fun _ k => XS.astore X13.here hx rfl (hb y d4_26) rfl rfl (l' := #[vr a1, vi 0, vi 4, vr b1, vi 2, vr r13]) rfl (XS.aload X13.here hx rfl (hb y d4_28) rfl rfl (XS.iload X13.here hx rfl (hb y d4_30) rfl k))) ?_
    refine Gl.callS0 X13 hx hZ (y := my5) hown (w151 hw) (w152 hw) (w19 hw) (w153 hw) (desc_ne (by decide)) (argsL := [(.ref r13), (.int 2)]) (rest := []) (rmG42 hw r13 kB c0 c1 c2 c3 n0 Vq13 hr2 Sa Sh Sl O13) 0 (by decide) (by decide) rfl hml.symm pd_5 rfl rfl (Nat.le_of_eq rfl) (hb y d4_32) (by decide) (by decide) ?_
    intro v16 T16 X16 e16 hv16
    subst hv16
    show Gf p e below _ T16 m 35 #[vr a1, vi 0, vi 4, vr b1, vi 2, vr r13] [(.int c2)]
    refine gs (fun _ k => XS.sipush X16.here hx rfl (hb y d4_35) (XS.icmpYes X16.here hx rfl (pc0 := 38) (pc' := 54) rfl (hb y d4_38) rfl (tlt hb3).2.2.1 (by decide) (by decide) (XS.aload X16.here hx rfl (hb y d4_54) rfl rfl k))) ?_
    exact Gl.retR X16 hx hlk hret rfl rfl (hb y d4_56) e16 (⟨_, rfl, Or.inr Vq13, K13, N13, Gr13, Jr13⟩) (by decide) (by decide)
  · show Gf p e below _ T3 m 12 #[vr a1, vi 0, vi 4, vr b1, vu, vu] [(.int 3)]
    refine gs (fun _ k => XS.istore X3.here hx rfl (hb y d4_12) rfl (l' := #[vr a1, vi 0, vi 4, vr b1, vi 3, vu]) rfl (XS.iload X3.here hx rfl (hb y d4_14) rfl (XS.iloadN X3.here hx rfl (hb y d4_16) rfl (XS.icmpNo X3.here hx rfl (hb y d4_17) rfl (feq (by decide : ¬ ((3 : Int32) = (4 : Int32)))).1 (XS.aloadN X3.here hx rfl (hb y d4_20) rfl rfl (XS.iloadN X3.here hx rfl (hb y d4_21) rfl k)))))) ?_
    show Gf p e below _ T3 m 22 #[vr a1, vi 0, vi 4, vr b1, vi 3, vu] [(.int 0), (.ref a1)]
    refine gs (fun _ k => XS.iloadN X3.here hx rfl (hb y d4_22) rfl k) ?_
    refine Gl.callS X3 hx hZ (y := my4) hown (w135 hw) (w136 hw) (w19 hw) (w137 hw) (desc_ne (by decide)) (rm := ro 2 1 8 26) (argsL := [(.ref a1), (.int 0), (.int 4)]) (rest := []) (rmB4 hw a1 kk1 kB c0 c1 c2 c3 n0 hfb vc4 Sa Sh Sl O3) 0 (by decide) (by decide) (by decide) (by decide) rfl hml.symm pd_4 rfl rfl (Nat.le_of_eq rfl) (hb y d4_23) ?_
    intro v17 T17 L17 X17 hQ17
    obtain ⟨r17, rfl, Vq17, Kq17, Nq17, Gr17, H17⟩ := hQ17
    have N17 := Fr.app N3 Nq17
    have ne_a1_r17 : a1 ≠ r17 := Nat.ne_of_lt (Nat.lt_of_lt_of_le vc4.lt H17)
    have ne_b1_r17 : b1 ≠ r17 := Nat.ne_of_lt (Nat.lt_of_lt_of_le Vq3.lt H17)
    have Jr17 : h0.size ≤ r17 := Nat.le_trans K3.1 H17
    have vc18 := vc4.keep Kq17 (by simp)
    have vc19 := Vq3.keep Kq17 (by simp)
    have O17 := O3.keep Kq17 all0
    have K17 := K3.trans Kq17 (by intro x hx'; exact nomatch hx')
    show Gf p e below _ T17 m 26 #[vr a1, vi 0, vi 4, vr b1, vi 3, vu] [(.ref r17)]
    refine gs (fun _ k => XS.astore X17.here hx rfl (hb y d4_26) rfl rfl (l' := #[vr a1, vi 0, vi 4, vr b1, vi 3, vr r17]) rfl (XS.aload X17.here hx rfl (hb y d4_28) rfl rfl (XS.iload X17.here hx rfl (hb y d4_30) rfl k))) ?_
    refine Gl.callS0 X17 hx hZ (y := my5) hown (w151 hw) (w152 hw) (w19 hw) (w153 hw) (desc_ne (by decide)) (argsL := [(.ref r17), (.int 3)]) (rest := []) (rmG43 hw r17 kB c0 c1 c2 c3 n0 Vq17 hr3 Sa Sh Sl O17) 0 (by decide) (by decide) rfl hml.symm pd_5 rfl rfl (Nat.le_of_eq rfl) (hb y d4_32) (by decide) (by decide) ?_
    intro v20 T20 X20 e20 hv20
    subst hv20
    show Gf p e below _ T20 m 35 #[vr a1, vi 0, vi 4, vr b1, vi 3, vr r17] [(.int c3)]
    refine gs (fun _ k => XS.sipush X20.here hx rfl (hb y d4_35) (XS.icmpYes X20.here hx rfl (pc0 := 38) (pc' := 54) rfl (hb y d4_38) rfl (tlt hb3).2.2.1 (by decide) (by decide) (XS.aload X20.here hx rfl (hb y d4_54) rfl rfl k))) ?_
    exact Gl.retR X20 hx hlk hret rfl rfl (hb y d4_56) e20 (⟨_, rfl, Or.inr Vq17, K17, N17, Gr17, Jr17⟩) (by decide) (by decide)
theorem rmZ40 {l : Launch} {Z : State} {a0 : Array Value} (hw : HW Z a0) {h0 : Heap} (a1 : Addr) (kB : ClassId) (vs : List Value) (V1 : Arv Z h0 a1 kB .byte (4 : Int32) vs (.int 0)) : Con l Z my8 bc18 2 (some .byte) [] (ro 0 0 0 0) 0 0 #[(.ref a1), (.int 4)] h0 (Pur (fun v => v = some (.int 0)) h0) := by
  refine Con.intro (plainFor_of_name pn_0) ?_
  intro p e s m below meth c s₁ X0 hx y hml hZ hown hnm hret hlk e0 hs0
  refine gs (fun _ k => castTop (ef_8 m a1 (4 : Int32)) k) ?_
  show Gf p e below _ s₁ m 0 #[vr a1, vi 4] []
  refine gs (fun _ k => XS.iloadN X0.here hx rfl (hb y d6_0) rfl (XS.aloadN X0.here hx rfl (hb y d6_1) rfl rfl k)) ?_
  obtain ⟨zcl1, zAr1, zq1, zS1, zM1, zH1, zG1⟩ := id V1
  refine gs (fun _ k => X0.arraylength hx (by rw [e0]; exact (zAr1).1) (State.isArrayOf_alike hZ.alike (zAr1).2.1) (g := (mkF m 2 #[vr a1, vi 4] [(.ref a1), (.int 4)])) rfl rfl (hb y d6_2) _ k) ?_
  rw [len_of zS1 (by decide)]
  show Gf p e below _ s₁ m 3 #[vr a1, vi 4] [(.int 4), (.int 4)]
  refine gs (fun _ k => XS.isub X0.here hx rfl (hb y d6_3) rfl k) ?_
  show Gf p e below _ s₁ m 4 #[vr a1, vi 4] [(.int 0)]
  refine gs (fun _ k => XS.bipush X0.here hx rfl (hb y d6_4) (XS.iushr X0.here hx rfl (hb y d6_6) rfl (XS.i2b X0.here hx rfl (hb y d6_7) rfl k))) ?_
  exact Gl.retN X0 hx hlk hret (by simp) (hb y d6_8) e0 (⟨rfl, rfl, rfl⟩) (by decide) (by decide)
theorem rmZ41 {l : Launch} {Z : State} {a0 : Array Value} (hw : HW Z a0) {h0 : Heap} (a1 : Addr) (kB : ClassId) (vs : List Value) (V1 : Arv Z h0 a1 kB .byte (8 : Int32) vs (.int 0)) : Con l Z my8 bc18 2 (some .byte) [] (ro 0 0 0 0) 0 0 #[(.ref a1), (.int 4)] h0 (Pur (fun v => v = some (.int 1)) h0) := by
  refine Con.intro (plainFor_of_name pn_0) ?_
  intro p e s m below meth c s₁ X0 hx y hml hZ hown hnm hret hlk e0 hs0
  refine gs (fun _ k => castTop (ef_8 m a1 (4 : Int32)) k) ?_
  show Gf p e below _ s₁ m 0 #[vr a1, vi 4] []
  refine gs (fun _ k => XS.iloadN X0.here hx rfl (hb y d6_0) rfl (XS.aloadN X0.here hx rfl (hb y d6_1) rfl rfl k)) ?_
  obtain ⟨zcl1, zAr1, zq1, zS1, zM1, zH1, zG1⟩ := id V1
  refine gs (fun _ k => X0.arraylength hx (by rw [e0]; exact (zAr1).1) (State.isArrayOf_alike hZ.alike (zAr1).2.1) (g := (mkF m 2 #[vr a1, vi 4] [(.ref a1), (.int 4)])) rfl rfl (hb y d6_2) _ k) ?_
  rw [len_of zS1 (by decide)]
  show Gf p e below _ s₁ m 3 #[vr a1, vi 4] [(.int 8), (.int 4)]
  refine gs (fun _ k => XS.isub X0.here hx rfl (hb y d6_3) rfl k) ?_
  show Gf p e below _ s₁ m 4 #[vr a1, vi 4] [(.int (-4 : Int32))]
  refine gs (fun _ k => XS.bipush X0.here hx rfl (hb y d6_4) (XS.iushr X0.here hx rfl (hb y d6_6) rfl (XS.i2b X0.here hx rfl (hb y d6_7) rfl k))) ?_
  exact Gl.retN X0 hx hlk hret (by simp) (hb y d6_8) e0 (⟨rfl, rfl, rfl⟩) (by decide) (by decide)
theorem rmI4 {l : Launch} {Z : State} {a0 : Array Value} (hw : HW Z a0) {h0 : Heap} (b1 a1 : Addr) (kk1 kB : ClassId) (c0 c1 c2 c3 : Int32) (cz : Int32) (n0 : Nat) (hfb : Z.vm.findClass "[B" = some kB) (E1 : xS Z h0 b1) (Fv : Fld Z h0 b1 "java/lang/String" "value" "[B" .null) (Fc : fC Z h0 b1 0) (Gb1 : n0 ≤ b1) (V1 : Arv Z h0 a1 kk1 .char (4 : Int32) [.int c0, .int c1, .int c2, .int c3] (.int 0)) (hab : ¬ a1 = b1) (hr0 : rg c0) (hr1 : rg c1) (hr2 : rg c2) (hr3 : rg c3) (SC : sSC Z cz) (hcz : ¬ cz = 0) (Sa : sSa Z) (Sh : sSh Z) (Sl : sSl Z) (O0 : Old Z n0 h0) : Con l Z my9 bc4 6 none [] (ro 4 2 12 66) 2 12 #[(.ref b1), (.ref a1), (.int 0), (.int 4), .null] h0 (fun v h L => v = none ∧ Fr n0 L ∧ Keep h0 h [b1] ∧ ∃ t, fV Z h b1 t ∧ ((fC Z h b1 0 ∧ Arv Z h t kB .byte (4 : Int32) [.int (o8 c0), .int (o8 c1), .int (o8 c2), .int (o8 c3)] (.int 0) ∧ (¬ (255 : Int32) < c0 ∧ ¬ (255 : Int32) < c1 ∧ ¬ (255 : Int32) < c2 ∧ ¬ (255 : Int32) < c3)) ∨ (fC Z h b1 1 ∧ Arv Z h t kB .byte (8 : Int32) [.int (oh c0), .int (ol c0), .int (oh c1), .int (ol c1), .int (oh c2), .int (ol c2), .int (oh c3), .int (ol c3)] (.int 0)))) := by
  refine Con.intro (plainFor_of_name pn_1) ?_
  intro p e s m below meth c s₁ X0 hx y hml hZ hown hnm hret hlk e0 hs0
  refine gs (fun _ k => castTop (ef_9 m b1 a1 (0 : Int32) (4 : Int32) ) k) ?_
  have K0 := Keep.refl h0 [b1]
  show Gf p e below _ s₁ m 0 #[vr b1, vr a1, vi 0, vi 4, .val .null, vu] []
  refine gs (fun _ k => XS.aloadN X0.here hx rfl (hb y d2_0) rfl rfl k) ?_
  obtain ⟨T1, X1, e1, st1⟩ := initO X0 hx hZ hown (w13 hw) (w14 hw) (w15 hw) e0 (g := (mkF m 1 #[vr b1, vr a1, vi 0, vi 4, .val .null, vu] [(.ref b1)])) rfl hml.symm rfl (hb y d2_1) (by decide) (W := 0) (by show 2 * 0 + _ ≤ _; exact Nat.le_of_eq rfl) (by decide)
  refine Gl.of st1 ?_
  show Gf p e below _ T1 m 4 #[vr b1, vr a1, vi 0, vi 4, .val .null, vu] []
  refine gs (fun _ k => XS.iloadN X1.here hx rfl (hb y d2_4) rfl (XS.ifYes X1.here hx rfl (pc0 := 5) (pc' := 27) rfl (hb y d2_5) rfl ((if0 _ _).trans (feq (by decide : ¬ ((4 : Int32) = (0 : Int32)))).2) (by decide) (by decide) k)) ?_
  obtain ⟨T2, X2, e2, st2⟩ := getS2 X1 hx hZ hown (host := "") (Or.inl (w16 hw)) Via.refl e1 (SC.ext O0.2) (g := (mkF m 27 #[vr b1, vr a1, vi 0, vi 4, .val .null, vu] [])) rfl (hb y d2_27)
  refine Gl.of st2 ?_
  show Gf p e below _ T2 m 30 #[vr b1, vr a1, vi 0, vi 4, .val .null, vu] [(.int cz)]
  refine gs (fun _ k => XS.ifNo X2.here hx rfl (hb y d2_30) rfl ((if0 _ _).trans (feq hcz).1) (XS.aloadN X2.here hx rfl (hb y d2_33) rfl rfl (XS.iloadN X2.here hx rfl (hb y d2_34) rfl (XS.iloadN X2.here hx rfl (hb y d2_35) rfl k)))) ?_
  refine Gl.callS X2 hx hZ (y := my7) hown (w17 hw) (w18 hw) (w19 hw) (w20 hw) (desc_ne (by decide)) (rm := ro 3 2 12 45) (argsL := [(.ref a1), (.int 0), (.int 4)]) (rest := []) (rmC4 hw a1 kk1 kB c0 c1 c2 c3 n0 hfb V1 hr0 hr1 hr2 hr3 Sa Sh Sl O0) 0 (by decide) (by decide) (by decide) (by decide) e2 hml.symm pd_4 rfl rfl (Nat.le_of_eq rfl) (hb y d2_36) ?_
  intro v3 T3 L3 X3 hQ3
  obtain ⟨r3, rfl, dj3, Kq3, Nq3, Gr3, H3⟩ := hQ3
  have N3 := Fr.app (Fr.nil n0) Nq3
  have ne_a1_r3 : a1 ≠ r3 := Nat.ne_of_lt (Nat.lt_of_lt_of_le V1.lt H3)
  have ne_b1_r3 : b1 ≠ r3 := Nat.ne_of_lt (Nat.lt_of_lt_of_le E1.lt H3)
  have Jr3 : h0.size ≤ r3 := Nat.le_trans K0.1 H3
  have vc4 := V1.keep Kq3 (by simp)
  have ec5 := E1.keep Kq3
  have fc6 := Fv.keep Kq3 (by simp)
  have fc7 := Fc.keep Kq3 (by simp)
  have O3 := O0.keep Kq3 all0
  have K3 := K0.trans Kq3 (by intro x hx'; exact nomatch hx')
  rcases dj3 with ⟨Vq3, le3⟩ | Vq3
  · show Gf p e below _ T3 m 39 #[vr b1, vr a1, vi 0, vi 4, .val .null, vu] [(.ref r3)]
    refine gs (fun _ k => XS.astore X3.here hx rfl (hb y d2_39) rfl rfl (l' := #[vr b1, vr a1, vi 0, vi 4, .val .null, vr r3]) rfl (XS.aloadN X3.here hx rfl (hb y d2_41) rfl rfl (XS.aload X3.here hx rfl (hb y d2_42) rfl rfl (XS.iloadN X3.here hx rfl (hb y d2_44) rfl k)))) ?_
    refine Gl.callS0 X3 hx hZ (y := my8) hown (w25 hw) (w26 hw) (w19 hw) (w27 hw) (desc_ne (by decide)) (argsL := [(.ref r3), (.int 4)]) (rest := [(.ref b1)]) (rmZ40 hw r3 kB _ Vq3) 1 (by decide) (by decide) rfl hml.symm pd_6 rfl rfl (Nat.le_of_eq rfl) (hb y d2_45) (by decide) (by decide) ?_
    intro v8 T8 X8 e8 hv8
    subst hv8
    show Gf p e below _ T8 m 48 #[vr b1, vr a1, vi 0, vi 4, .val .null, vr r3] [(.int 0), (.ref b1)]
    obtain ⟨T9, h9, X9, e9, W9, st9⟩ := putFN X8 hx hZ hown (w28 hw) Via.refl e8 fc7 ec5 (Or.inr ⟨(w29 hw), rfl, hnm⟩) (w3 hw) (ty := .byte) (v' := (.int (nar .byte (0 : Int32)))) (by decide) rfl (fits_nar_byte _) (g := (mkF m 48 #[vr b1, vr a1, vi 0, vi 4, .val .null, vr r3] [(.int 0), (.ref b1)])) rfl rfl (hb y d2_48)
    refine Gl.of st9 ?_
    have F9 : Fld Z h9 b1 "java/lang/String" "coder" "B" (.int (nar .byte (0 : Int32))) := fc7.same W9
    have vc10 := vc4.other W9 hab
    have ec11 := ec5.wr W9
    have fc12 := fc6.other W9 (Or.inr (slot_ne (Or.inr (w31 hw)) (Or.inr (w29 hw)) (by decide) (t := (.array .byte)) (t' := .byte) (by decide) (by decide)))
    have vc13 := Vq3.other W9 ne_b1_r3.symm
    have N9 := Fr.snoc X9 N3 Gb1
    have O9 := O3.wr W9 Gb1
    have K9 := K3.wr W9 (Or.inl (List.mem_of_getElem? (i := 0) rfl))
    show Gf p e below _ T9 m 51 #[vr b1, vr a1, vi 0, vi 4, .val .null, vr r3] []
    refine gs (fun _ k => XS.aloadN X9.here hx rfl (hb y d2_51) rfl rfl (XS.aload X9.here hx rfl (hb y d2_52) rfl rfl k)) ?_
    obtain ⟨T14, h14, X14, e14, W14, st14⟩ := putF X9 hx hZ hown (host := "") (Or.inl (w30 hw)) Via.refl e9 fc12 ec11 (Or.inr ⟨(w31 hw), rfl, hnm⟩) (w3 hw) (ty := (.array .byte)) (by decide) rfl rfl (g := (mkF m 54 #[vr b1, vr a1, vi 0, vi 4, .val .null, vr r3] [(.ref r3), (.ref b1)])) rfl rfl (hb y d2_54)
    refine Gl.of st14 ?_
    have F14 : fV Z h14 b1 r3 := fc12.same W14
    have vc15 := vc10.other W14 hab
    have ec16 := ec11.wr W14
    have vc17 := vc13.other W14 ne_b1_r3.symm
    have fc18 := F9.other W14 (Or.inr (slot_ne (Or.inr (w29 hw)) (Or.inr (w31 hw)) (by decide) (t := .byte) (t' := (.array .byte)) (by decide) (by decide)))
    have N14 := Fr.snoc X14 N9 Gb1
    have O14 := O9.wr W14 Gb1
    have K14 := K9.wr W14 (Or.inl (List.mem_of_getElem? (i := 0) rfl))
    show Gf p e below _ T14 m 57 #[vr b1, vr a1, vi 0, vi 4, .val .null, vr r3] []
    exact Gl.ret0 X14 hx hlk hret (hb y d2_57) e14 (⟨rfl, N14, K14, _, F14, Or.inl ⟨fc18, vc17, le3⟩⟩) (by decide) (by decide)
  · show Gf p e below _ T3 m 39 #[vr b1, vr a1, vi 0, vi 4, .val .null, vu] [(.ref r3)]
    refine gs (fun _ k => XS.astore X3.here hx rfl (hb y d2_39) rfl rfl (l' := #[vr b1, vr a1, vi 0, vi 4, .val .null, vr r3]) rfl (XS.aloadN X3.here hx rfl (hb y d2_41) rfl rfl (XS.aload X3.here hx rfl (hb y d2_42) rfl rfl (XS.iloadN X3.here hx rfl (hb y d2_44) rfl k)))) ?_
    refine Gl.callS0 X3 hx hZ (y := my8) hown (w25 hw) (w26 hw) (w19 hw) (w27 hw) (desc_ne (by decide)) (argsL := [(.ref r3), (.int 4)]) (rest := [(.ref b1)]) (rmZ41 hw r3 kB _ Vq3) 1 (by decide) (by decide) rfl hml.symm pd_6 rfl rfl (Nat.le_of_eq rfl) (hb y d2_45) (by decide) (by decide) ?_
    intro v19 T19 X19 e19 hv19
    subst hv19
    show Gf p e below _ T19 m 48 #[vr b1, vr a1, vi 0, vi 4, .val .null, vr r3] [(.int 1), (.ref b1)]
    obtain ⟨T20, h20, X20, e20, W20, st20⟩ := putFN X19 hx hZ hown (w28 hw) Via.refl e19 fc7 ec5 (Or.inr ⟨(w29 hw), rfl, hnm⟩) (w3 hw) (ty := .byte) (v' := (.int (nar .byte (1 : Int32)))) (by decide) rfl (fits_nar_byte _) (g := (mkF m 48 #[vr b1, vr a1, vi 0, vi 4, .val .null, vr r3] [(.int 1), (.ref b1)])) rfl rfl (hb y d2_48)
    refine Gl.of st20 ?_
    have F20 : Fld Z h20 b1 "java/lang/String" "coder" "B" (.int (nar .byte (1 : Int32))) := fc7.same W20
    have vc21 := vc4.other W20 hab
    have ec22 := ec5.wr W20
    have fc23 := fc6.other W20 (Or.inr (slot_ne (Or.inr (w31 hw)) (Or.inr (w29 hw)) (by decide) (t := (.array .byte)) (t' := .byte) (by decide) (by decide)))
    have vc24 := Vq3.other W20 ne_b1_r3.symm
    have N20 := Fr.snoc X20 N3 Gb1
    have O20 := O3.wr W20 Gb1
    have K20 := K3.wr W20 (Or.inl (List.mem_of_getElem? (i := 0) rfl))
    show Gf p e below _ T20 m 51 #[vr b1, vr a1, vi 0, vi 4, .val .null, vr r3] []
    refine gs (fun _ k => XS.aloadN X20.here hx rfl (hb y d2_51) rfl rfl (XS.aload X20.here hx rfl (hb y d2_52) rfl rfl k)) ?_
    obtain ⟨T25, h25, X25, e25, W25, st25⟩ := putF X20 hx hZ hown (host := "") (Or.inl (w30 hw)) Via.refl e20 fc23 ec22 (Or.inr ⟨(w31 hw), rfl, hnm⟩) (w3 hw) (ty := (.array .byte)) (by decide) rfl rfl (g := (mkF m 54 #[vr b1, vr a1, vi 0, vi 4, .val .null, vr r3] [(.ref r3), (.ref b1)])) rfl rfl (hb y d2_54)
    refine Gl.of st25 ?_
    have F25 : fV Z h25 b1 r3 := fc23.same W25
    have vc26 := vc21.other W25 hab
    have ec27 := ec22.wr W25
    have vc28 := vc24.other W25 ne_b1_r3.symm
    have fc29 := F20.other W25 (Or.inr (slot_ne (Or.inr (w29 hw)) (Or.inr (w31 hw)) (by decide) (t := .byte) (t' := (.array .byte)) (by decide) (by decide)))
    have N25 := Fr.snoc X25 N20 Gb1
    have O25 := O20.wr W25 Gb1
    have K25 := K20.wr W25 (Or.inl (List.mem_of_getElem? (i := 0) rfl))
    show Gf p e below _ T25 m 57 #[vr b1, vr a1, vi 0, vi 4, .val .null, vr r3] []
    exact Gl.ret0 X25 hx hlk hret (hb y d2_57) e25 (⟨rfl, N25, K25, _, F25, Or.inr ⟨fc29, vc28⟩⟩) (by decide) (by decide)
theorem rmJ4 {l : Launch} {Z : State} {a0 : Array Value} (hw : HW Z a0) {h0 : Heap} (b1 a1 : Addr) (kk1 kB : ClassId) (c0 c1 c2 c3 : Int32) (cz : Int32) (n0 : Nat) (hfb : Z.vm.findClass "[B" = some kB) (E1 : xS Z h0 b1) (Fv : Fld Z h0 b1 "java/lang/String" "value" "[B" .null) (Fc : fC Z h0 b1 0) (Gb1 : n0 ≤ b1) (V1 : Arv Z h0 a1 kk1 .char (4 : Int32) [.int c0, .int c1, .int c2, .int c3] (.int 0)) (hab : ¬ a1 = b1) (hr0 : rg c0) (hr1 : rg c1) (hr2 : rg c2) (hr3 : rg c3) (SC : sSC Z cz) (hcz : ¬ cz = 0) (Sa : sSa Z) (Sh : sSh Z) (Sl : sSl Z) (O0 : Old Z n0 h0) : Con l Z my10 bc11 2 none [] (ro 5 2 12 84) 2 12 #[(.ref b1), (.ref a1)] h0 (fun v h L => v = none ∧ Fr n0 L ∧ Keep h0 h [b1] ∧ ∃ t, fV Z h b1 t ∧ ((fC Z h b1 0 ∧ Arv Z h t kB .byte (4 : Int32) [.int (o8 c0), .int (o8 c1), .int (o8 c2), .int (o8 c3)] (.int 0) ∧ (¬ (255 : Int32) < c0 ∧ ¬ (255 : Int32) < c1 ∧ ¬ (255 : Int32) < c2 ∧ ¬ (255 : Int32) < c3)) ∨ (fC Z h b1 1 ∧ Arv Z h t kB .byte (8 : Int32) [.int (oh c0), .int (ol c0), .int (oh c1), .int (ol c1), .int (oh c2), .int (ol c2), .int (oh c3), .int (ol c3)] (.int 0)))) := by
  refine Con.intro (plainFor_of_name pn_1) ?_
  intro p e s m below meth c s₁ X0 hx y hml hZ hown hnm hret hlk e0 hs0
  refine gs (fun _ k => castTop (ef_10 m b1 a1) k) ?_
  have K0 := Keep.refl h0 [b1]
  show Gf p e below _ s₁ m 0 #[vr b1, vr a1] []
  refine gs (fun _ k => XS.aloadN X0.here hx rfl (hb y d1_0) rfl rfl (XS.aloadN X0.here hx rfl (hb y d1_1) rfl rfl (XS.iconst X0.here hx rfl (hb y d1_2) (XS.aloadN X0.here hx rfl (hb y d1_3) rfl rfl k)))) ?_
  obtain ⟨zcl1, zAr1, zq1, zS1, zM1, zH1, zG1⟩ := id V1
  refine gs (fun _ k => X0.arraylength hx (by rw [e0]; exact (zAr1).1) (State.isArrayOf_alike hZ.alike (zAr1).2.1) (g := (mkF m 4 #[vr b1, vr a1] [(.ref a1), (.int 0), (.ref a1), (.ref b1)])) rfl rfl (hb y d1_4) _ k) ?_
  rw [len_of zS1 (by decide)]
  show Gf p e below _ s₁ m 5 #[vr b1, vr a1] [(.int 4), (.int 0), (.ref a1), (.ref b1)]
  refine gs (fun _ k => XS.aconstNull X0.here hx rfl (hb y d1_5) k) ?_
  refine Gl.callI X0 hx hZ (y := my9) rfl hown (w9 hw) (w10 hw) (w4 hw) (w12 hw) (desc_ne (by decide)) (rm := ro 4 2 12 66) (b := b1) (argsL := [(.ref a1), (.int 0), (.int 4), .null]) (rest := []) (rmI4 hw b1 a1 kk1 kB c0 c1 c2 c3 cz n0 hfb E1 Fv Fc Gb1 V1 hab hr0 hr1 hr2 hr3 SC hcz Sa Sh Sl O0) 0 (by decide) (by decide) (by decide) (by decide) e0 hml.symm pd_7 rfl rfl (Nat.le_of_eq rfl) (hb y d1_6) ?_
  intro v2 T2 L2 X2 hQ2
  obtain ⟨rfl, Nq2, Kq2, ex2⟩ := hQ2
  have N2 := Fr.app (Fr.nil n0) Nq2
  have vc3 := V1.keep Kq2 (fun q => hab (List.mem_singleton.mp q))
  have ec4 := E1.keep Kq2
  have O2 := O0.keep Kq2 (allS Gb1 all0)
  have K2 := K0.trans Kq2 (by intro x hx'; cases List.mem_singleton.mp hx'; exact Or.inl (List.mem_of_getElem? (i := 0) rfl))
  show Gf p e below _ T2 m 9 #[vr b1, vr a1] []
  exact Gl.ret0 X2 hx hlk hret (hb y d1_9) rfl (⟨rfl, N2, K2, ex2⟩) (by decide) (by decide)
theorem own_l8 {c : Int32} (h : rg c) (h2 : ¬ (255 : Int32) < c) : nar .char ((o8 c &&& (255 : Int32)).toUInt32.toUInt16.toUInt32.toInt32) = c := by
  have e0 : (0 : Int32).toInt = 0 := rfl
  have e1 : (255 : Int32).toInt = 255 := rfl
  have h0 := h.1
  rw [Int32.lt_iff_toInt_lt] at h2 h0
  have hc : c.toBitVec.toNat < 256 := by
    have e : c.toInt = c.toBitVec.toInt := rfl
    rw [BitVec.toInt_eq_toNat_cond] at e
    have e3 := c.toBitVec.isLt
    split at e <;> omega
  have e : o8 c &&& (255 : Int32) = c := by
    unfold o8
    rw [own_nb8]
    have q := StrChars.lo8_and c
    unfold StrChars.lo8 at q
    exact Int32.toBitVec_inj.mp (BitVec.eq_of_toNat_eq (by rw [q]; omega))
  rw [e, own_i2c (by omega) (by omega)]
  exact own_nc h
theorem ef_11 (m : MethodId) (x0 : Addr) : entryFrame m #[(.ref x0)] 1 = mkF m 0 #[vr x0] [] := by first | (simp [entryFrame, mkF, argsToLocals, Value.category, maxLocals]; done) | rfl
theorem d12_0 : decode bc6 0 = .ok (.getstatic 38, 3) := by decide +kernel
theorem d12_3 : decode bc6 3 = .ok (.ifCond .eq 10, 3) := by decide +kernel
theorem d12_6 : decode bc6 6 = .ok (.aload_n 0, 1) := by decide +kernel
theorem d12_7 : decode bc6 7 = .ok (.getfield 15, 3) := by decide +kernel
theorem d12_10 : decode bc6 10 = .ok (.goto 4, 3) := by decide +kernel
theorem d12_14 : decode bc6 14 = .ok (.ireturn, 1) := by decide +kernel
theorem rmD0 {l : Launch} {Z : State} {a0 : Array Value} (hw : HW Z a0) {h0 : Heap} (x1 : Addr) (cz : Int32) (n0 : Nat) (Fc : fC Z h0 x1 0) (SC : sSC Z cz) (hcz : ¬ cz = 0) (O0 : Old Z n0 h0) : Con l Z my11 bc6 1 (some .byte) [] (ro 0 0 0 0) 0 0 #[(.ref x1)] h0 (Pur (fun v => v = some (.int 0)) h0) := by
  refine Con.intro (plainFor_of_name pn_1) ?_
  intro p e s m below meth c s₁ X0 hx y hml hZ hown hnm hret hlk e0 hs0
  refine gs (fun _ k => castTop (ef_11 m x1) k) ?_
  show Gf p e below _ s₁ m 0 #[vr x1] []
  obtain ⟨T1, X1, e1, st1⟩ := getS2 X0 hx hZ hown (host := "") (Or.inl (w16 hw)) Via.refl e0 (SC.ext O0.2) (g := (mkF m 0 #[vr x1] [])) rfl (hb y d12_0)
  refine Gl.of st1 ?_
  show Gf p e below _ T1 m 3 #[vr x1] [(.int cz)]
  refine gs (fun _ k => XS.ifNo X1.here hx rfl (hb y d12_3) rfl ((if0 _ _).trans (feq hcz).1) (XS.aloadN X1.here hx rfl (hb y d12_6) rfl rfl k)) ?_
  obtain ⟨T2, X2, e2, st2⟩ := getF X1 hx hZ hown (host := "") (Or.inl (w28 hw)) Via.refl e1 Fc (g := (mkF m 7 #[vr x1] [(.ref x1)])) rfl rfl (hb y d12_7)
  refine Gl.of st2 ?_
  show Gf p e below _ T2 m 10 #[vr x1] [(.int 0)]
  refine gs (fun _ k => XS.goto X2.here hx rfl (pc0 := 10) (pc' := 14) rfl (hb y d12_10) (by decide) (by decide) k) ?_
  exact Gl.retN X2 hx hlk hret (by simp) (hb y d12_14) e2 (⟨rfl, rfl, rfl⟩) (by decide) (by decide)
theorem ef_12 (m : MethodId) (x0 : Addr) : entryFrame m #[(.ref x0)] 1 = mkF m 0 #[vr x0] [] := by first | (simp [entryFrame, mkF, argsToLocals, Value.category, maxLocals]; done) | rfl
theorem d15_0 : decode bc7 0 = .ok (.getstatic 38, 3) := by decide +kernel
theorem d15_3 : decode bc7 3 = .ok (.ifCond .eq 14, 3) := by decide +kernel
theorem d15_6 : decode bc7 6 = .ok (.aload_n 0, 1) := by decide +kernel
theorem d15_7 : decode bc7 7 = .ok (.getfield 15, 3) := by decide +kernel
theorem d15_10 : decode bc7 10 = .ok (.ifCond .ne 7, 3) := by decide +kernel
theorem d15_13 : decode bc7 13 = .ok (.iconst 1, 1) := by decide +kernel
theorem d15_14 : decode bc7 14 = .ok (.goto 4, 3) := by decide +kernel
theorem d15_18 : decode bc7 18 = .ok (.ireturn, 1) := by decide +kernel
theorem rmQ0 {l : Launch} {Z : State} {a0 : Array Value} (hw : HW Z a0) {h0 : Heap} (x1 : Addr) (cz : Int32) (n0 : Nat) (Fc : fC Z h0 x1 0) (SC : sSC Z cz) (hcz : ¬ cz = 0) (O0 : Old Z n0 h0) : Con l Z my12 bc7 1 (some .boolean) [] (ro 0 0 0 0) 0 0 #[(.ref x1)] h0 (Pur (fun v => v = some (.int 1)) h0) := by
  refine Con.intro (plainFor_of_name pn_1) ?_
  intro p e s m below meth c s₁ X0 hx y hml hZ hown hnm hret hlk e0 hs0
  refine gs (fun _ k => castTop (ef_12 m x1) k) ?_
  show Gf p e below _ s₁ m 0 #[vr x1] []
  obtain ⟨T1, X1, e1, st1⟩ := getS2 X0 hx hZ hown (host := "") (Or.inl (w16 hw)) Via.refl e0 (SC.ext O0.2) (g := (mkF m 0 #[vr x1] [])) rfl (hb y d15_0)
  refine Gl.of st1 ?_
  show Gf p e below _ T1 m 3 #[vr x1] [(.int cz)]
  refine gs (fun _ k => XS.ifNo X1.here hx rfl (hb y d15_3) rfl ((if0 _ _).trans (feq hcz).1) (XS.aloadN X1.here hx rfl (hb y d15_6) rfl rfl k)) ?_
  obtain ⟨T2, X2, e2, st2⟩ := getF X1 hx hZ hown (host := "") (Or.inl (w28 hw)) Via.refl e1 Fc (g := (mkF m 7 #[vr x1] [(.ref x1)])) rfl rfl (hb y d15_7)
  refine Gl.of st2 ?_
  show Gf p e below _ T2 m 10 #[vr x1] [(.int 0)]
  refine gs (fun _ k => XS.ifNo X2.here hx rfl (hb y d15_10) rfl ((if0 _ _).trans (teq (by decide : (0 : Int32) = (0 : Int32))).2) (XS.iconst X2.here hx rfl (hb y d15_13) (XS.goto X2.here hx rfl (pc0 := 14) (pc' := 18) rfl (hb y d15_14) (by decide) (by decide) k))) ?_
  exact Gl.retN X2 hx hlk hret (by simp) (hb y d15_18) e2 (⟨rfl, rfl, rfl⟩) (by decide) (by decide)
theorem rmD1 {l : Launch} {Z : State} {a0 : Array Value} (hw : HW Z a0) {h0 : Heap} (x1 : Addr) (cz : Int32) (n0 : Nat) (Fc : fC Z h0 x1 1) (SC : sSC Z cz) (hcz : ¬ cz = 0) (O0 : Old Z n0 h0) : Con l Z my11 bc6 1 (some .byte) [] (ro 0 0 0 0) 0 0 #[(.ref x1)] h0 (Pur (fun v => v = some (.int 1)) h0) := by
  refine Con.intro (plainFor_of_name pn_1) ?_
  intro p e s m below meth c s₁ X0 hx y hml hZ hown hnm hret hlk e0 hs0
  refine gs (fun _ k => castTop (ef_11 m x1) k) ?_
  show Gf p e below _ s₁ m 0 #[vr x1] []
  obtain ⟨T1, X1, e1, st1⟩ := getS2 X0 hx hZ hown (host := "") (Or.inl (w16 hw)) Via.refl e0 (SC.ext O0.2) (g := (mkF m 0 #[vr x1] [])) rfl (hb y d12_0)
  refine Gl.of st1 ?_
  show Gf p e below _ T1 m 3 #[vr x1] [(.int cz)]
  refine gs (fun _ k => XS.ifNo X1.here hx rfl (hb y d12_3) rfl ((if0 _ _).trans (feq hcz).1) (XS.aloadN X1.here hx rfl (hb y d12_6) rfl rfl k)) ?_
  obtain ⟨T2, X2, e2, st2⟩ := getF X1 hx hZ hown (host := "") (Or.inl (w28 hw)) Via.refl e1 Fc (g := (mkF m 7 #[vr x1] [(.ref x1)])) rfl rfl (hb y d12_7)
  refine Gl.of st2 ?_
  show Gf p e below _ T2 m 10 #[vr x1] [(.int 1)]
  refine gs (fun _ k => XS.goto X2.here hx rfl (pc0 := 10) (pc' := 14) rfl (hb y d12_10) (by decide) (by decide) k) ?_
  exact Gl.retN X2 hx hlk hret (by simp) (hb y d12_14) e2 (⟨rfl, rfl, rfl⟩) (by decide) (by decide)
theorem d15_17 : decode bc7 17 = .ok (.iconst 0, 1) := by decide +kernel
theorem rmQ1 {l : Launch} {Z : State} {a0 : Array Value} (hw : HW Z a0) {h0 : Heap} (x1 : Addr) (cz : Int32) (n0 : Nat) (Fc : fC Z h0 x1 1) (SC : sSC Z cz) (hcz : ¬ cz = 0) (O0 : Old Z n0 h0) : Con l Z my12 bc7 1 (some .boolean) [] (ro 0 0 0 0) 0 0 #[(.ref x1)] h0 (Pur (fun v => v = some (.int 0)) h0) := by
  refine Con.intro (plainFor_of_name pn_1) ?_
  intro p e s m below meth c s₁ X0 hx y hml hZ hown hnm hret hlk e0 hs0
  refine gs (fun _ k => castTop (ef_12 m x1) k) ?_
  show Gf p e below _ s₁ m 0 #[vr x1] []
  obtain ⟨T1, X1, e1, st1⟩ := getS2 X0 hx hZ hown (host := "") (Or.inl (w16 hw)) Via.refl e0 (SC.ext O0.2) (g := (mkF m 0 #[vr x1] [])) rfl (hb y d15_0)
  refine Gl.of st1 ?_
  show Gf p e below _ T1 m 3 #[vr x1] [(.int cz)]
  refine gs (fun _ k => XS.ifNo X1.here hx rfl (hb y d15_3) rfl ((if0 _ _).trans (feq hcz).1) (XS.aloadN X1.here hx rfl (hb y d15_6) rfl rfl k)) ?_
  obtain ⟨T2, X2, e2, st2⟩ := getF X1 hx hZ hown (host := "") (Or.inl (w28 hw)) Via.refl e1 Fc (g := (mkF m 7 #[vr x1] [(.ref x1)])) rfl rfl (hb y d15_7)
  refine Gl.of st2 ?_
  show Gf p e below _ T2 m 10 #[vr x1] [(.int 1)]
  refine gs (fun _ k => XS.ifYes X2.here hx rfl (pc0 := 10) (pc' := 17) rfl (hb y d15_10) rfl ((if0 _ _).trans (feq (by decide : ¬ ((1 : Int32) = (0 : Int32)))).2) (by decide) (by decide) (XS.iconst X2.here hx rfl (hb y d15_17) k)) ?_
  exact Gl.retN X2 hx hlk hret (by simp) (hb y d15_18) e2 (⟨rfl, rfl, rfl⟩) (by decide) (by decide)
theorem ef_13 (m : MethodId) (x0 : Int32) (x1 : Int32) (x2 : Value) (hx2 : x2.isRef = true) : entryFrame m #[(.int x0), (.int x1), x2] 3 = mkF m 0 #[vi x0, vi x1, .val x2] [] := by rcases ref_cases hx2 with rfl | ⟨_, rfl⟩ <;> (first | (simp [entryFrame, mkF, argsToLocals, Value.category, maxLocals]; done) | rfl)
theorem pn_2 : plainName "jdk/internal/util/Preconditions" = true := by first | (simp [plainName, overriddenIn]; done) | decide +kernel
theorem d25_0 : decode bc1 0 = .ok (.iload_n 0, 1) := by decide +kernel
theorem d25_1 : decode bc1 1 = .ok (.ifCond .lt 8, 3) := by decide +kernel
theorem d25_4 : decode bc1 4 = .ok (.iload_n 0, 1) := by decide +kernel
theorem d25_5 : decode bc1 5 = .ok (.iload_n 1, 1) := by decide +kernel
theorem d25_6 : decode bc1 6 = .ok (.if_icmp .lt 10, 3) := by decide +kernel
theorem d25_16 : decode bc1 16 = .ok (.iload_n 0, 1) := by decide +kernel
theorem d25_17 : decode bc1 17 = .ok (.ireturn, 1) := by decide +kernel
theorem rmX1 {l : Launch} {Z : State} {a0 : Array Value} (hw : HW Z a0) {h0 : Heap} (p1 p2 : Int32) (w3 : Value) (r3 : w3.isRef = true) (h1 : ¬ p1 < (0 : Int32)) (h2 : p1 < p2) : Con l Z my13 bc1 3 (some .int) [] (ro 0 0 0 0) 0 0 #[(.int p1), (.int p2), w3] h0 (Pur (fun v => v = some (.int p1)) h0) := by
  refine Con.intro (plainFor_of_name pn_2) ?_
  intro p e s m below meth c s₁ X0 hx y hml hZ hown hnm hret hlk e0 hs0
  refine gs (fun _ k => castTop (ef_13 m p1 p2 w3 r3) k) ?_
  show Gf p e below _ s₁ m 0 #[vi p1, vi p2, .val w3] []
  refine gs (fun _ k => XS.iloadN X0.here hx rfl (hb y d25_0) rfl (XS.ifNo X0.here hx rfl (hb y d25_1) rfl ((if0 _ _).trans (flt h1).1) (XS.iloadN X0.here hx rfl (hb y d25_4) rfl (XS.iloadN X0.here hx rfl (hb y d25_5) rfl (XS.icmpYes X0.here hx rfl (pc0 := 6) (pc' := 16) rfl (hb y d25_6) rfl (tlt h2).1 (by decide) (by decide) (XS.iloadN X0.here hx rfl (hb y d25_16) rfl k)))))) ?_
  show Gf p e below _ s₁ m 17 #[vi p1, vi p2, .val w3] [(.int p1)]
  exact Gl.retI X0 hx hlk hret (hb y d25_17) e0 (⟨rfl, rfl, rfl⟩) (by decide) (by decide)
theorem ef_14 (m : MethodId) (x0 : Int32) (x1 : Int32) : entryFrame m #[(.int x0), (.int x1)] 2 = mkF m 0 #[vi x0, vi x1] [] := by first | (simp [entryFrame, mkF, argsToLocals, Value.category, maxLocals]; done) | rfl
theorem d24_0 : decode bc8 0 = .ok (.iload_n 0, 1) := by decide +kernel
theorem d24_1 : decode bc8 1 = .ok (.iload_n 1, 1) := by decide +kernel
theorem d24_2 : decode bc8 2 = .ok (.getstatic 1053, 3) := by decide +kernel
theorem w82 (hw : HW Z a0) : (Jvm.Cond.fieldLink "java/lang/String" (1053 : Nat) "jdk/internal/util/Preconditions" "SIOOBE_FORMATTER" "Ljava/util/function/BiFunction;").before a0 Z = true := hw _ (wm 82 rfl)
theorem d24_5 : decode bc8 5 = .ok (.invokestatic 1059, 3) := by decide +kernel
theorem pd_8 : parseMethodDescriptor "(IILjava/util/function/BiFunction;)I" = some ⟨[.int, .int, (.object "java/util/function/BiFunction")], some .int⟩ := by decide +kernel
theorem w130 (hw : HW Z a0) : (Jvm.Cond.methodLink "java/lang/String" (1059 : Nat) ⟨"jdk/internal/util/Preconditions", "checkIndex", "(IILjava/util/function/BiFunction;)I"⟩).before a0 Z = true := hw _ (wm 130 rfl)
theorem w131 (hw : HW Z a0) : (Jvm.Cond.static ⟨"jdk/internal/util/Preconditions", "checkIndex", "(IILjava/util/function/BiFunction;)I"⟩).before a0 Z = true := hw _ (wm 131 rfl)
theorem w83 (hw : HW Z a0) : (Jvm.Cond.initialized "jdk/internal/util/Preconditions").before a0 Z = true := hw _ (wm 83 rfl)
theorem w132 (hw : HW Z a0) : (Jvm.Cond.code ⟨"jdk/internal/util/Preconditions", "checkIndex", "(IILjava/util/function/BiFunction;)I"⟩ bc1 (3 : Nat) (Option.some Jvm.ClassFile.FieldType.int)).before a0 Z = true := hw _ (wm 132 rfl)
theorem d24_8 : decode bc8 8 = .ok (.pop, 1) := by decide +kernel
theorem d24_9 : decode bc8 9 = .ok (.return_, 1) := by decide +kernel
theorem rmX2 {l : Launch} {Z : State} {a0 : Array Value} (hw : HW Z a0) {h0 : Heap} (p1 p2 : Int32) (fm : Value) (n0 : Nat) (SF : sSF Z fm) (rf : fm.isRef = true) (h1 : ¬ p1 < (0 : Int32)) (h2 : p1 < p2) (O0 : Old Z n0 h0) : Con l Z my14 bc8 2 none [] (ro 1 0 0 14) 0 0 #[(.int p1), (.int p2)] h0 (Pur (fun v => v = none) h0) := by
  refine Con.intro (plainFor_of_name pn_1) ?_
  intro p e s m below meth c s₁ X0 hx y hml hZ hown hnm hret hlk e0 hs0
  refine gs (fun _ k => castTop (ef_14 m p1 p2) k) ?_
  show Gf p e below _ s₁ m 0 #[vi p1, vi p2] []
  refine gs (fun _ k => XS.iloadN X0.here hx rfl (hb y d24_0) rfl (XS.iloadN X0.here hx rfl (hb y d24_1) rfl k)) ?_
  obtain ⟨T1, X1, e1, st1⟩ := getS2 X0 hx hZ hown (host := "") (Or.inl (w82 hw)) Via.refl e0 (SF.ext O0.2) (g := (mkF m 2 #[vi p1, vi p2] [(.int p2), (.int p1)])) rfl (hb y d24_2)
  refine Gl.of st1 ?_
  show Gf p e below _ T1 m 5 #[vi p1, vi p2] [fm, (.int p2), (.int p1)]
  refine Gl.callS0 X1 hx hZ (y := my13) hown (w130 hw) (w131 hw) (w83 hw) (w132 hw) (desc_ne (by decide)) (argsL := [(.int p1), (.int p2), fm]) (rest := []) (rmX1 hw p1 p2 fm rf h1 h2) 0 (by decide) (by decide) e1 hml.symm pd_8 rfl rfl (Nat.le_of_eq rfl) (hb y d24_5) (by decide) (by decide) ?_
  intro v2 T2 X2 e2 hv2
  subst hv2
  show Gf p e below _ T2 m 8 #[vi p1, vi p2] [(.int p1)]
  refine gs (fun _ k => XS.pop X2.here hx rfl (hb y d24_8) rfl rfl k) ?_
  exact Gl.ret0 X2 hx hlk hret (hb y d24_9) e2 (⟨rfl, rfl, rfl⟩) (by decide) (by decide)
theorem ef_15 (m : MethodId) (x0 : Addr) : entryFrame m #[(.ref x0)] 1 = mkF m 0 #[vr x0] [] := by first | (simp [entryFrame, mkF, argsToLocals, Value.category, maxLocals]; done) | rfl
theorem d33_0 : decode bc28 0 = .ok (.aload_n 0, 1) := by decide +kernel
theorem d33_1 : decode bc28 1 = .ok (.arraylength, 1) := by decide +kernel
theorem d33_2 : decode bc28 2 = .ok (.iconst 1, 1) := by decide +kernel
theorem d33_3 : decode bc28 3 = .ok (.ishr, 1) := by decide +kernel
theorem d33_4 : decode bc28 4 = .ok (.ireturn, 1) := by decide +kernel
theorem rmX31 {l : Launch} {Z : State} {a0 : Array Value} (hw : HW Z a0) {h0 : Heap} (a1 : Addr) (kB : ClassId) (vs : List Value) (V1 : Arv Z h0 a1 kB .byte (2 : Int32) vs (.int 0)) : Con l Z my15 bc28 1 (some .int) [] (ro 0 0 0 0) 0 0 #[(.ref a1)] h0 (Pur (fun v => v = some (.int 1)) h0) := by
  refine Con.intro (plainFor_of_name pn_0) ?_
  intro p e s m below meth c s₁ X0 hx y hml hZ hown hnm hret hlk e0 hs0
  refine gs (fun _ k => castTop (ef_15 m a1) k) ?_
  show Gf p e below _ s₁ m 0 #[vr a1] []
  refine gs (fun _ k => XS.aloadN X0.here hx rfl (hb y d33_0) rfl rfl k) ?_
  obtain ⟨zcl1, zAr1, zq1, zS1, zM1, zH1, zG1⟩ := id V1
  refine gs (fun _ k => X0.arraylength hx (by rw [e0]; exact (zAr1).1) (State.isArrayOf_alike hZ.alike (zAr1).2.1) (g := (mkF m 1 #[vr a1] [(.ref a1)])) rfl rfl (hb y d33_1) _ k) ?_
  rw [len_of zS1 (by decide)]
  show Gf p e below _ s₁ m 2 #[vr a1] [(.int 2)]
  refine gs (fun _ k => XS.iconst X0.here hx rfl (hb y d33_2) (XS.ishr X0.here hx rfl (hb y d33_3) rfl k)) ?_
  exact Gl.retI X0 hx hlk hret (hb y d33_4) e0 (⟨rfl, rfl, rfl⟩) (by decide) (by decide)
theorem ef_16 (m : MethodId) (x0 : Addr) : entryFrame m #[(.ref x0)] 1 = mkF m 0 #[vr x0] [] := by first | (simp [entryFrame, mkF, argsToLocals, Value.category, maxLocals]; done) | rfl
theorem d11_0 : decode bc12 0 = .ok (.aload_n 0, 1) := by decide +kernel
theorem d11_1 : decode bc12 1 = .ok (.getfield 9, 3) := by decide +kernel
theorem d11_4 : decode bc12 4 = .ok (.arraylength, 1) := by decide +kernel
theorem d11_5 : decode bc12 5 = .ok (.aload_n 0, 1) := by decide +kernel
theorem d11_6 : decode bc12 6 = .ok (.invokevirtual 335, 3) := by decide +kernel
theorem pd_9 : parseMethodDescriptor "()B" = some ⟨[], some .byte⟩ := by decide +kernel
theorem w77 (hw : HW Z a0) : (Jvm.Cond.selects "java/lang/String" ⟨"java/lang/String", "coder", "()B"⟩ ⟨"java/lang/String", "coder", "()B"⟩).before a0 Z = true := hw _ (wm 77 rfl)
theorem w74 (hw : HW Z a0) : (Jvm.Cond.methodLink "java/lang/String" (335 : Nat) ⟨"java/lang/String", "coder", "()B"⟩).before a0 Z = true := hw _ (wm 74 rfl)
theorem w75 (hw : HW Z a0) : (Jvm.Cond.declares ⟨"java/lang/String", "coder", "()B"⟩).before a0 Z = true := hw _ (wm 75 rfl)
theorem w76 (hw : HW Z a0) : (Jvm.Cond.instanceMethod ⟨"java/lang/String", "coder", "()B"⟩).before a0 Z = true := hw _ (wm 76 rfl)
theorem w78 (hw : HW Z a0) : (Jvm.Cond.code ⟨"java/lang/String", "coder", "()B"⟩ bc6 (1 : Nat) (Option.some Jvm.ClassFile.FieldType.byte)).before a0 Z = true := hw _ (wm 78 rfl)
theorem d11_9 : decode bc12 9 = .ok (.ishr, 1) := by decide +kernel
theorem d11_10 : decode bc12 10 = .ok (.ireturn, 1) := by decide +kernel
theorem rmN10 {l : Launch} {Z : State} {a0 : Array Value} (hw : HW Z a0) {h0 : Heap} (x1 t1 : Addr) (kB : ClassId) (c0 : Int32) (cz : Int32) (n0 : Nat) (E1 : xS Z h0 x1) (Fv : fV Z h0 x1 t1) (Fc : fC Z h0 x1 0) (V1 : Arv Z h0 t1 kB .byte (1 : Int32) [.int (o8 c0)] (.int 0)) (SC : sSC Z cz) (hcz : ¬ cz = 0) (O0 : Old Z n0 h0) : Con l Z my16 bc12 1 (some .int) [] (ro 1 0 0 13) 0 0 #[(.ref x1)] h0 (Pur (fun v => v = some (.int 1)) h0) := by
  refine Con.intro (plainFor_of_name pn_1) ?_
  intro p e s m below meth c s₁ X0 hx y hml hZ hown hnm hret hlk e0 hs0
  refine gs (fun _ k => castTop (ef_16 m x1) k) ?_
  show Gf p e below _ s₁ m 0 #[vr x1] []
  refine gs (fun _ k => XS.aloadN X0.here hx rfl (hb y d11_0) rfl rfl k) ?_
  obtain ⟨T1, X1, e1, st1⟩ := getF X0 hx hZ hown (host := "") (Or.inl (w30 hw)) Via.refl e0 Fv (g := (mkF m 1 #[vr x1] [(.ref x1)])) rfl rfl (hb y d11_1)
  refine Gl.of st1 ?_
  show Gf p e below _ T1 m 4 #[vr x1] [(.ref t1)]
  obtain ⟨zcl2, zAr2, zq2, zS2, zM2, zH2, zG2⟩ := id V1
  refine gs (fun _ k => X1.arraylength hx (by rw [e1]; exact (zAr2).1) (State.isArrayOf_alike hZ.alike (zAr2).2.1) (g := (mkF m 4 #[vr x1] [(.ref t1)])) rfl rfl (hb y d11_4) _ k) ?_
  rw [len_of zS2 (by decide)]
  show Gf p e below _ T1 m 5 #[vr x1] [(.int 1)]
  refine gs (fun _ k => XS.aloadN X1.here hx rfl (hb y d11_5) rfl rfl k) ?_
  refine Gl.callV0 X1 hx hZ (y := my11) (z := my11) hown (w74 hw) (w75 hw) (notFace_of_selects (args := #[]) (mvT hZ (w77 hw))) (w77 hw) (w76 hw) (w78 hw) (w4 hw) (desc_ne (by decide)) (b := x1) (argsL := []) (rest := [(.int 1)]) E1 (rmD0 hw x1 cz n0 Fc SC hcz O0) 1 (by decide) (by decide) e1 hml.symm pd_9 rfl rfl (Nat.le_of_eq rfl) (hb y d11_6) (by decide) (by decide) ?_
  intro v3 T3 X3 e3 hv3
  subst hv3
  show Gf p e below _ T3 m 9 #[vr x1] [(.int 0), (.int 1)]
  refine gs (fun _ k => XS.ishr X3.here hx rfl (hb y d11_9) rfl k) ?_
  exact Gl.retI X3 hx hlk hret (hb y d11_10) e3 (⟨rfl, rfl, rfl⟩) (by decide) (by decide)
theorem ef_17 (m : MethodId) (x0 : Addr) (x1 : Int32) : entryFrame m #[(.ref x0), (.int x1)] 2 = mkF m 0 #[vr x0, vi x1] [] := by first | (simp [entryFrame, mkF, argsToLocals, Value.category, maxLocals]; done) | rfl
theorem pn_3 : plainName "java/lang/StringLatin1" = true := by first | (simp [plainName, overriddenIn]; done) | decide +kernel
theorem d23_0 : decode bc15 0 = .ok (.iload_n 1, 1) := by decide +kernel
theorem d23_1 : decode bc15 1 = .ok (.aload_n 0, 1) := by decide +kernel
theorem d23_2 : decode bc15 2 = .ok (.arraylength, 1) := by decide +kernel
theorem d23_3 : decode bc15 3 = .ok (.invokestatic 9, 3) := by decide +kernel
theorem pd_10 : parseMethodDescriptor "(II)V" = some ⟨[.int, .int], none⟩ := by decide +kernel
theorem w127 (hw : HW Z a0) : (Jvm.Cond.methodLink "java/lang/StringLatin1" (9 : Nat) ⟨"java/lang/String", "checkIndex", "(II)V"⟩).before a0 Z = true := hw _ (wm 127 rfl)
theorem w128 (hw : HW Z a0) : (Jvm.Cond.static ⟨"java/lang/String", "checkIndex", "(II)V"⟩).before a0 Z = true := hw _ (wm 128 rfl)
theorem w129 (hw : HW Z a0) : (Jvm.Cond.code ⟨"java/lang/String", "checkIndex", "(II)V"⟩ bc8 (2 : Nat) (Option.none : Option Jvm.ClassFile.FieldType)).before a0 Z = true := hw _ (wm 129 rfl)
theorem d23_6 : decode bc15 6 = .ok (.aload_n 0, 1) := by decide +kernel
theorem d23_7 : decode bc15 7 = .ok (.iload_n 1, 1) := by decide +kernel
theorem d23_8 : decode bc15 8 = .ok (.baload, 1) := by decide +kernel
theorem d23_9 : decode bc15 9 = .ok (.sipush 255, 3) := by decide +kernel
theorem d23_12 : decode bc15 12 = .ok (.iand, 1) := by decide +kernel
theorem d23_13 : decode bc15 13 = .ok (.i2c, 1) := by decide +kernel
theorem d23_14 : decode bc15 14 = .ok (.ireturn, 1) := by decide +kernel
theorem rmW010 {l : Launch} {Z : State} {a0 : Array Value} (hw : HW Z a0) {h0 : Heap} (t1 : Addr) (kB : ClassId) (c0 : Int32) (fm : Value) (n0 : Nat) (V1 : Arv Z h0 t1 kB .byte (1 : Int32) [.int (o8 c0)] (.int 0)) (hr : rg c0) (hl : ¬ (255 : Int32) < c0) (SF : sSF Z fm) (rf : fm.isRef = true) (O0 : Old Z n0 h0) : Con l Z my17 bc15 2 (some .char) [] (ro 2 0 0 28) 0 0 #[(.ref t1), (.int 0)] h0 (Pur (fun v => v = some (.int c0)) h0) := by
  refine Con.intro (plainFor_of_name pn_3) ?_
  intro p e s m below meth c s₁ X0 hx y hml hZ hown hnm hret hlk e0 hs0
  refine gs (fun _ k => castTop (ef_17 m t1 (0 : Int32)) k) ?_
  show Gf p e below _ s₁ m 0 #[vr t1, vi 0] []
  refine gs (fun _ k => XS.iloadN X0.here hx rfl (hb y d23_0) rfl (XS.aloadN X0.here hx rfl (hb y d23_1) rfl rfl k)) ?_
  obtain ⟨zcl1, zAr1, zq1, zS1, zM1, zH1, zG1⟩ := id V1
  refine gs (fun _ k => X0.arraylength hx (by rw [e0]; exact (zAr1).1) (State.isArrayOf_alike hZ.alike (zAr1).2.1) (g := (mkF m 2 #[vr t1, vi 0] [(.ref t1), (.int 0)])) rfl rfl (hb y d23_2) _ k) ?_
  rw [len_of zS1 (by decide)]
  show Gf p e below _ s₁ m 3 #[vr t1, vi 0] [(.int 1), (.int 0)]
  refine Gl.callS0 X0 hx hZ (y := my14) hown (w127 hw) (w128 hw) (w4 hw) (w129 hw) (desc_ne (by decide)) (argsL := [(.int 0), (.int 1)]) (rest := []) (rmX2 hw (0 : Int32) (1 : Int32) fm n0 SF rf (by decide) (by decide) O0) 0 (by decide) (by decide) e0 hml.symm pd_10 rfl rfl (Nat.le_of_eq rfl) (hb y d23_3) (by decide) (by decide) ?_
  intro v2 T2 X2 e2 hv2
  subst hv2
  show Gf p e below _ T2 m 6 #[vr t1, vi 0] []
  refine gs (fun _ k => XS.aloadN X2.here hx rfl (hb y d23_6) rfl rfl (XS.iloadN X2.here hx rfl (hb y d23_7) rfl k)) ?_
  obtain ⟨zcl3, zAr3, zq3, zS3, zM3, zH3, zG3⟩ := id V1
  refine gs (fun _ k => X2.baloadBytes hx (j := (0 : Int32)) (v := (.int (o8 c0))) (by rw [e2]; exact (zAr3).1) (State.isArrayOf_alike hZ.alike (zAr3).2.1) (zAr3).2.2 (inb_of zS3 ⟨by decide, by decide⟩) (zH3 0 (by rw [zS3]; decide)) (g := (mkF m 8 #[vr t1, vi 0] [(.int 0), (.ref t1)])) rfl rfl (hb y d23_8) _ k) ?_
  show Gf p e below _ T2 m 9 #[vr t1, vi 0] [(.int (o8 c0))]
  refine gs (fun _ k => XS.sipush X2.here hx rfl (hb y d23_9) (XS.iand X2.here hx rfl (hb y d23_12) rfl (XS.i2c X2.here hx rfl (hb y d23_13) rfl k))) ?_
  exact Gl.retN X2 hx hlk hret (by simp) (hb y d23_14) e2 (⟨congrArg (fun z => some (Value.int z)) (own_l8 hr hl), rfl, rfl⟩) (by decide) (by decide)
theorem rmN11 {l : Launch} {Z : State} {a0 : Array Value} (hw : HW Z a0) {h0 : Heap} (x1 t1 : Addr) (kB : ClassId) (c0 : Int32) (cz : Int32) (n0 : Nat) (E1 : xS Z h0 x1) (Fv : fV Z h0 x1 t1) (Fc : fC Z h0 x1 1) (V1 : Arv Z h0 t1 kB .byte (2 : Int32) [.int (oh c0), .int (ol c0)] (.int 0)) (SC : sSC Z cz) (hcz : ¬ cz = 0) (O0 : Old Z n0 h0) : Con l Z my16 bc12 1 (some .int) [] (ro 1 0 0 13) 0 0 #[(.ref x1)] h0 (Pur (fun v => v = some (.int 1)) h0) := by
  refine Con.intro (plainFor_of_name pn_1) ?_
  intro p e s m below meth c s₁ X0 hx y hml hZ hown hnm hret hlk e0 hs0
  refine gs (fun _ k => castTop (ef_16 m x1) k) ?_
  show Gf p e below _ s₁ m 0 #[vr x1] []
  refine gs (fun _ k => XS.aloadN X0.here hx rfl (hb y d11_0) rfl rfl k) ?_
  obtain ⟨T1, X1, e1, st1⟩ := getF X0 hx hZ hown (host := "") (Or.inl (w30 hw)) Via.refl e0 Fv (g := (mkF m 1 #[vr x1] [(.ref x1)])) rfl rfl (hb y d11_1)
  refine Gl.of st1 ?_
  show Gf p e below _ T1 m 4 #[vr x1] [(.ref t1)]
  obtain ⟨zcl2, zAr2, zq2, zS2, zM2, zH2, zG2⟩ := id V1
  refine gs (fun _ k => X1.arraylength hx (by rw [e1]; exact (zAr2).1) (State.isArrayOf_alike hZ.alike (zAr2).2.1) (g := (mkF m 4 #[vr x1] [(.ref t1)])) rfl rfl (hb y d11_4) _ k) ?_
  rw [len_of zS2 (by decide)]
  show Gf p e below _ T1 m 5 #[vr x1] [(.int 2)]
  refine gs (fun _ k => XS.aloadN X1.here hx rfl (hb y d11_5) rfl rfl k) ?_
  refine Gl.callV0 X1 hx hZ (y := my11) (z := my11) hown (w74 hw) (w75 hw) (notFace_of_selects (args := #[]) (mvT hZ (w77 hw))) (w77 hw) (w76 hw) (w78 hw) (w4 hw) (desc_ne (by decide)) (b := x1) (argsL := []) (rest := [(.int 2)]) E1 (rmD1 hw x1 cz n0 Fc SC hcz O0) 1 (by decide) (by decide) e1 hml.symm pd_9 rfl rfl (Nat.le_of_eq rfl) (hb y d11_6) (by decide) (by decide) ?_
  intro v3 T3 X3 e3 hv3
  subst hv3
  show Gf p e below _ T3 m 9 #[vr x1] [(.int 1), (.int 2)]
  refine gs (fun _ k => XS.ishr X3.here hx rfl (hb y d11_9) rfl k) ?_
  exact Gl.retI X3 hx hlk hret (hb y d11_10) e3 (⟨rfl, rfl, rfl⟩) (by decide) (by decide)
theorem rmX32 {l : Launch} {Z : State} {a0 : Array Value} (hw : HW Z a0) {h0 : Heap} (a1 : Addr) (kB : ClassId) (vs : List Value) (V1 : Arv Z h0 a1 kB .byte (4 : Int32) vs (.int 0)) : Con l Z my15 bc28 1 (some .int) [] (ro 0 0 0 0) 0 0 #[(.ref a1)] h0 (Pur (fun v => v = some (.int 2)) h0) := by
  refine Con.intro (plainFor_of_name pn_0) ?_
  intro p e s m below meth c s₁ X0 hx y hml hZ hown hnm hret hlk e0 hs0
  refine gs (fun _ k => castTop (ef_15 m a1) k) ?_
  show Gf p e below _ s₁ m 0 #[vr a1] []
  refine gs (fun _ k => XS.aloadN X0.here hx rfl (hb y d33_0) rfl rfl k) ?_
  obtain ⟨zcl1, zAr1, zq1, zS1, zM1, zH1, zG1⟩ := id V1
  refine gs (fun _ k => X0.arraylength hx (by rw [e0]; exact (zAr1).1) (State.isArrayOf_alike hZ.alike (zAr1).2.1) (g := (mkF m 1 #[vr a1] [(.ref a1)])) rfl rfl (hb y d33_1) _ k) ?_
  rw [len_of zS1 (by decide)]
  show Gf p e below _ s₁ m 2 #[vr a1] [(.int 4)]
  refine gs (fun _ k => XS.iconst X0.here hx rfl (hb y d33_2) (XS.ishr X0.here hx rfl (hb y d33_3) rfl k)) ?_
  exact Gl.retI X0 hx hlk hret (hb y d33_4) e0 (⟨rfl, rfl, rfl⟩) (by decide) (by decide)
theorem rmN20 {l : Launch} {Z : State} {a0 : Array Value} (hw : HW Z a0) {h0 : Heap} (x1 t1 : Addr) (kB : ClassId) (c0 c1 : Int32) (cz : Int32) (n0 : Nat) (E1 : xS Z h0 x1) (Fv : fV Z h0 x1 t1) (Fc : fC Z h0 x1 0) (V1 : Arv Z h0 t1 kB .byte (2 : Int32) [.int (o8 c0), .int (o8 c1)] (.int 0)) (SC : sSC Z cz) (hcz : ¬ cz = 0) (O0 : Old Z n0 h0) : Con l Z my16 bc12 1 (some .int) [] (ro 1 0 0 13) 0 0 #[(.ref x1)] h0 (Pur (fun v => v = some (.int 2)) h0) := by
  refine Con.intro (plainFor_of_name pn_1) ?_
  intro p e s m below meth c s₁ X0 hx y hml hZ hown hnm hret hlk e0 hs0
  refine gs (fun _ k => castTop (ef_16 m x1) k) ?_
  show Gf p e below _ s₁ m 0 #[vr x1] []
  refine gs (fun _ k => XS.aloadN X0.here hx rfl (hb y d11_0) rfl rfl k) ?_
  obtain ⟨T1, X1, e1, st1⟩ := getF X0 hx hZ hown (host := "") (Or.inl (w30 hw)) Via.refl e0 Fv (g := (mkF m 1 #[vr x1] [(.ref x1)])) rfl rfl (hb y d11_1)
  refine Gl.of st1 ?_
  show Gf p e below _ T1 m 4 #[vr x1] [(.ref t1)]
  obtain ⟨zcl2, zAr2, zq2, zS2, zM2, zH2, zG2⟩ := id V1
  refine gs (fun _ k => X1.arraylength hx (by rw [e1]; exact (zAr2).1) (State.isArrayOf_alike hZ.alike (zAr2).2.1) (g := (mkF m 4 #[vr x1] [(.ref t1)])) rfl rfl (hb y d11_4) _ k) ?_
  rw [len_of zS2 (by decide)]
  show Gf p e below _ T1 m 5 #[vr x1] [(.int 2)]
  refine gs (fun _ k => XS.aloadN X1.here hx rfl (hb y d11_5) rfl rfl k) ?_
  refine Gl.callV0 X1 hx hZ (y := my11) (z := my11) hown (w74 hw) (w75 hw) (notFace_of_selects (args := #[]) (mvT hZ (w77 hw))) (w77 hw) (w76 hw) (w78 hw) (w4 hw) (desc_ne (by decide)) (b := x1) (argsL := []) (rest := [(.int 2)]) E1 (rmD0 hw x1 cz n0 Fc SC hcz O0) 1 (by decide) (by decide) e1 hml.symm pd_9 rfl rfl (Nat.le_of_eq rfl) (hb y d11_6) (by decide) (by decide) ?_
  intro v3 T3 X3 e3 hv3
  subst hv3
  show Gf p e below _ T3 m 9 #[vr x1] [(.int 0), (.int 2)]
  refine gs (fun _ k => XS.ishr X3.here hx rfl (hb y d11_9) rfl k) ?_
  exact Gl.retI X3 hx hlk hret (hb y d11_10) e3 (⟨rfl, rfl, rfl⟩) (by decide) (by decide)
theorem rmW020 {l : Launch} {Z : State} {a0 : Array Value} (hw : HW Z a0) {h0 : Heap} (t1 : Addr) (kB : ClassId) (c0 c1 : Int32) (fm : Value) (n0 : Nat) (V1 : Arv Z h0 t1 kB .byte (2 : Int32) [.int (o8 c0), .int (o8 c1)] (.int 0)) (hr : rg c0) (hl : ¬ (255 : Int32) < c0) (SF : sSF Z fm) (rf : fm.isRef = true) (O0 : Old Z n0 h0) : Con l Z my17 bc15 2 (some .char) [] (ro 2 0 0 28) 0 0 #[(.ref t1), (.int 0)] h0 (Pur (fun v => v = some (.int c0)) h0) := by
  refine Con.intro (plainFor_of_name pn_3) ?_
  intro p e s m below meth c s₁ X0 hx y hml hZ hown hnm hret hlk e0 hs0
  refine gs (fun _ k => castTop (ef_17 m t1 (0 : Int32)) k) ?_
  show Gf p e below _ s₁ m 0 #[vr t1, vi 0] []
  refine gs (fun _ k => XS.iloadN X0.here hx rfl (hb y d23_0) rfl (XS.aloadN X0.here hx rfl (hb y d23_1) rfl rfl k)) ?_
  obtain ⟨zcl1, zAr1, zq1, zS1, zM1, zH1, zG1⟩ := id V1
  refine gs (fun _ k => X0.arraylength hx (by rw [e0]; exact (zAr1).1) (State.isArrayOf_alike hZ.alike (zAr1).2.1) (g := (mkF m 2 #[vr t1, vi 0] [(.ref t1), (.int 0)])) rfl rfl (hb y d23_2) _ k) ?_
  rw [len_of zS1 (by decide)]
  show Gf p e below _ s₁ m 3 #[vr t1, vi 0] [(.int 2), (.int 0)]
  refine Gl.callS0 X0 hx hZ (y := my14) hown (w127 hw) (w128 hw) (w4 hw) (w129 hw) (desc_ne (by decide)) (argsL := [(.int 0), (.int 2)]) (rest := []) (rmX2 hw (0 : Int32) (2 : Int32) fm n0 SF rf (by decide) (by decide) O0) 0 (by decide) (by decide) e0 hml.symm pd_10 rfl rfl (Nat.le_of_eq rfl) (hb y d23_3) (by decide) (by decide) ?_
  intro v2 T2 X2 e2 hv2
  subst hv2
  show Gf p e below _ T2 m 6 #[vr t1, vi 0] []
  refine gs (fun _ k => XS.aloadN X2.here hx rfl (hb y d23_6) rfl rfl (XS.iloadN X2.here hx rfl (hb y d23_7) rfl k)) ?_
  obtain ⟨zcl3, zAr3, zq3, zS3, zM3, zH3, zG3⟩ := id V1
  refine gs (fun _ k => X2.baloadBytes hx (j := (0 : Int32)) (v := (.int (o8 c0))) (by rw [e2]; exact (zAr3).1) (State.isArrayOf_alike hZ.alike (zAr3).2.1) (zAr3).2.2 (inb_of zS3 ⟨by decide, by decide⟩) (zH3 0 (by rw [zS3]; decide)) (g := (mkF m 8 #[vr t1, vi 0] [(.int 0), (.ref t1)])) rfl rfl (hb y d23_8) _ k) ?_
  show Gf p e below _ T2 m 9 #[vr t1, vi 0] [(.int (o8 c0))]
  refine gs (fun _ k => XS.sipush X2.here hx rfl (hb y d23_9) (XS.iand X2.here hx rfl (hb y d23_12) rfl (XS.i2c X2.here hx rfl (hb y d23_13) rfl k))) ?_
  exact Gl.retN X2 hx hlk hret (by simp) (hb y d23_14) e2 (⟨congrArg (fun z => some (Value.int z)) (own_l8 hr hl), rfl, rfl⟩) (by decide) (by decide)
theorem rmW021 {l : Launch} {Z : State} {a0 : Array Value} (hw : HW Z a0) {h0 : Heap} (t1 : Addr) (kB : ClassId) (c0 c1 : Int32) (fm : Value) (n0 : Nat) (V1 : Arv Z h0 t1 kB .byte (2 : Int32) [.int (o8 c0), .int (o8 c1)] (.int 0)) (hr : rg c1) (hl : ¬ (255 : Int32) < c1) (SF : sSF Z fm) (rf : fm.isRef = true) (O0 : Old Z n0 h0) : Con l Z my17 bc15 2 (some .char) [] (ro 2 0 0 28) 0 0 #[(.ref t1), (.int 1)] h0 (Pur (fun v => v = some (.int c1)) h0) := by
  refine Con.intro (plainFor_of_name pn_3) ?_
  intro p e s m below meth c s₁ X0 hx y hml hZ hown hnm hret hlk e0 hs0
  refine gs (fun _ k => castTop (ef_17 m t1 (1 : Int32)) k) ?_
  show Gf p e below _ s₁ m 0 #[vr t1, vi 1] []
  refine gs (fun _ k => XS.iloadN X0.here hx rfl (hb y d23_0) rfl (XS.aloadN X0.here hx rfl (hb y d23_1) rfl rfl k)) ?_
  obtain ⟨zcl1, zAr1, zq1, zS1, zM1, zH1, zG1⟩ := id V1
  refine gs (fun _ k => X0.arraylength hx (by rw [e0]; exact (zAr1).1) (State.isArrayOf_alike hZ.alike (zAr1).2.1) (g := (mkF m 2 #[vr t1, vi 1] [(.ref t1), (.int 1)])) rfl rfl (hb y d23_2) _ k) ?_
  rw [len_of zS1 (by decide)]
  show Gf p e below _ s₁ m 3 #[vr t1, vi 1] [(.int 2), (.int 1)]
  refine Gl.callS0 X0 hx hZ (y := my14) hown (w127 hw) (w128 hw) (w4 hw) (w129 hw) (desc_ne (by decide)) (argsL := [(.int 1), (.int 2)]) (rest := []) (rmX2 hw (1 : Int32) (2 : Int32) fm n0 SF rf (by decide) (by decide) O0) 0 (by decide) (by decide) e0 hml.symm pd_10 rfl rfl (Nat.le_of_eq rfl) (hb y d23_3) (by decide) (by decide) ?_
  intro v2 T2 X2 e2 hv2
  subst hv2
  show Gf p e below _ T2 m 6 #[vr t1, vi 1] []
  refine gs (fun _ k => XS.aloadN X2.here hx rfl (hb y d23_6) rfl rfl (XS.iloadN X2.here hx rfl (hb y d23_7) rfl k)) ?_
  obtain ⟨zcl3, zAr3, zq3, zS3, zM3, zH3, zG3⟩ := id V1
  refine gs (fun _ k => X2.baloadBytes hx (j := (1 : Int32)) (v := (.int (o8 c1))) (by rw [e2]; exact (zAr3).1) (State.isArrayOf_alike hZ.alike (zAr3).2.1) (zAr3).2.2 (inb_of zS3 ⟨by decide, by decide⟩) (zH3 1 (by rw [zS3]; decide)) (g := (mkF m 8 #[vr t1, vi 1] [(.int 1), (.ref t1)])) rfl rfl (hb y d23_8) _ k) ?_
  show Gf p e below _ T2 m 9 #[vr t1, vi 1] [(.int (o8 c1))]
  refine gs (fun _ k => XS.sipush X2.here hx rfl (hb y d23_9) (XS.iand X2.here hx rfl (hb y d23_12) rfl (XS.i2c X2.here hx rfl (hb y d23_13) rfl k))) ?_
  exact Gl.retN X2 hx hlk hret (by simp) (hb y d23_14) e2 (⟨congrArg (fun z => some (Value.int z)) (own_l8 hr hl), rfl, rfl⟩) (by decide) (by decide)
theorem rmN21 {l : Launch} {Z : State} {a0 : Array Value} (hw : HW Z a0) {h0 : Heap} (x1 t1 : Addr) (kB : ClassId) (c0 c1 : Int32) (cz : Int32) (n0 : Nat) (E1 : xS Z h0 x1) (Fv : fV Z h0 x1 t1) (Fc : fC Z h0 x1 1) (V1 : Arv Z h0 t1 kB .byte (4 : Int32) [.int (oh c0), .int (ol c0), .int (oh c1), .int (ol c1)] (.int 0)) (SC : sSC Z cz) (hcz : ¬ cz = 0) (O0 : Old Z n0 h0) : Con l Z my16 bc12 1 (some .int) [] (ro 1 0 0 13) 0 0 #[(.ref x1)] h0 (Pur (fun v => v = some (.int 2)) h0) := by
  refine Con.intro (plainFor_of_name pn_1) ?_
  intro p e s m below meth c s₁ X0 hx y hml hZ hown hnm hret hlk e0 hs0
  refine gs (fun _ k => castTop (ef_16 m x1) k) ?_
  show Gf p e below _ s₁ m 0 #[vr x1] []
  refine gs (fun _ k => XS.aloadN X0.here hx rfl (hb y d11_0) rfl rfl k) ?_
  obtain ⟨T1, X1, e1, st1⟩ := getF X0 hx hZ hown (host := "") (Or.inl (w30 hw)) Via.refl e0 Fv (g := (mkF m 1 #[vr x1] [(.ref x1)])) rfl rfl (hb y d11_1)
  refine Gl.of st1 ?_
  show Gf p e below _ T1 m 4 #[vr x1] [(.ref t1)]
  obtain ⟨zcl2, zAr2, zq2, zS2, zM2, zH2, zG2⟩ := id V1
  refine gs (fun _ k => X1.arraylength hx (by rw [e1]; exact (zAr2).1) (State.isArrayOf_alike hZ.alike (zAr2).2.1) (g := (mkF m 4 #[vr x1] [(.ref t1)])) rfl rfl (hb y d11_4) _ k) ?_
  rw [len_of zS2 (by decide)]
  show Gf p e below _ T1 m 5 #[vr x1] [(.int 4)]
  refine gs (fun _ k => XS.aloadN X1.here hx rfl (hb y d11_5) rfl rfl k) ?_
  refine Gl.callV0 X1 hx hZ (y := my11) (z := my11) hown (w74 hw) (w75 hw) (notFace_of_selects (args := #[]) (mvT hZ (w77 hw))) (w77 hw) (w76 hw) (w78 hw) (w4 hw) (desc_ne (by decide)) (b := x1) (argsL := []) (rest := [(.int 4)]) E1 (rmD1 hw x1 cz n0 Fc SC hcz O0) 1 (by decide) (by decide) e1 hml.symm pd_9 rfl rfl (Nat.le_of_eq rfl) (hb y d11_6) (by decide) (by decide) ?_
  intro v3 T3 X3 e3 hv3
  subst hv3
  show Gf p e below _ T3 m 9 #[vr x1] [(.int 1), (.int 4)]
  refine gs (fun _ k => XS.ishr X3.here hx rfl (hb y d11_9) rfl k) ?_
  exact Gl.retI X3 hx hlk hret (hb y d11_10) e3 (⟨rfl, rfl, rfl⟩) (by decide) (by decide)
theorem rmX33 {l : Launch} {Z : State} {a0 : Array Value} (hw : HW Z a0) {h0 : Heap} (a1 : Addr) (kB : ClassId) (vs : List Value) (V1 : Arv Z h0 a1 kB .byte (6 : Int32) vs (.int 0)) : Con l Z my15 bc28 1 (some .int) [] (ro 0 0 0 0) 0 0 #[(.ref a1)] h0 (Pur (fun v => v = some (.int 3)) h0) := by
  refine Con.intro (plainFor_of_name pn_0) ?_
  intro p e s m below meth c s₁ X0 hx y hml hZ hown hnm hret hlk e0 hs0
  refine gs (fun _ k => castTop (ef_15 m a1) k) ?_
  show Gf p e below _ s₁ m 0 #[vr a1] []
  refine gs (fun _ k => XS.aloadN X0.here hx rfl (hb y d33_0) rfl rfl k) ?_
  obtain ⟨zcl1, zAr1, zq1, zS1, zM1, zH1, zG1⟩ := id V1
  refine gs (fun _ k => X0.arraylength hx (by rw [e0]; exact (zAr1).1) (State.isArrayOf_alike hZ.alike (zAr1).2.1) (g := (mkF m 1 #[vr a1] [(.ref a1)])) rfl rfl (hb y d33_1) _ k) ?_
  rw [len_of zS1 (by decide)]
  show Gf p e below _ s₁ m 2 #[vr a1] [(.int 6)]
  refine gs (fun _ k => XS.iconst X0.here hx rfl (hb y d33_2) (XS.ishr X0.here hx rfl (hb y d33_3) rfl k)) ?_
  exact Gl.retI X0 hx hlk hret (hb y d33_4) e0 (⟨rfl, rfl, rfl⟩) (by decide) (by decide)
theorem rmN30 {l : Launch} {Z : State} {a0 : Array Value} (hw : HW Z a0) {h0 : Heap} (x1 t1 : Addr) (kB : ClassId) (c0 c1 c2 : Int32) (cz : Int32) (n0 : Nat) (E1 : xS Z h0 x1) (Fv : fV Z h0 x1 t1) (Fc : fC Z h0 x1 0) (V1 : Arv Z h0 t1 kB .byte (3 : Int32) [.int (o8 c0), .int (o8 c1), .int (o8 c2)] (.int 0)) (SC : sSC Z cz) (hcz : ¬ cz = 0) (O0 : Old Z n0 h0) : Con l Z my16 bc12 1 (some .int) [] (ro 1 0 0 13) 0 0 #[(.ref x1)] h0 (Pur (fun v => v = some (.int 3)) h0) := by
  refine Con.intro (plainFor_of_name pn_1) ?_
  intro p e s m below meth c s₁ X0 hx y hml hZ hown hnm hret hlk e0 hs0
  refine gs (fun _ k => castTop (ef_16 m x1) k) ?_
  show Gf p e below _ s₁ m 0 #[vr x1] []
  refine gs (fun _ k => XS.aloadN X0.here hx rfl (hb y d11_0) rfl rfl k) ?_
  obtain ⟨T1, X1, e1, st1⟩ := getF X0 hx hZ hown (host := "") (Or.inl (w30 hw)) Via.refl e0 Fv (g := (mkF m 1 #[vr x1] [(.ref x1)])) rfl rfl (hb y d11_1)
  refine Gl.of st1 ?_
  show Gf p e below _ T1 m 4 #[vr x1] [(.ref t1)]
  obtain ⟨zcl2, zAr2, zq2, zS2, zM2, zH2, zG2⟩ := id V1
  refine gs (fun _ k => X1.arraylength hx (by rw [e1]; exact (zAr2).1) (State.isArrayOf_alike hZ.alike (zAr2).2.1) (g := (mkF m 4 #[vr x1] [(.ref t1)])) rfl rfl (hb y d11_4) _ k) ?_
  rw [len_of zS2 (by decide)]
  show Gf p e below _ T1 m 5 #[vr x1] [(.int 3)]
  refine gs (fun _ k => XS.aloadN X1.here hx rfl (hb y d11_5) rfl rfl k) ?_
  refine Gl.callV0 X1 hx hZ (y := my11) (z := my11) hown (w74 hw) (w75 hw) (notFace_of_selects (args := #[]) (mvT hZ (w77 hw))) (w77 hw) (w76 hw) (w78 hw) (w4 hw) (desc_ne (by decide)) (b := x1) (argsL := []) (rest := [(.int 3)]) E1 (rmD0 hw x1 cz n0 Fc SC hcz O0) 1 (by decide) (by decide) e1 hml.symm pd_9 rfl rfl (Nat.le_of_eq rfl) (hb y d11_6) (by decide) (by decide) ?_
  intro v3 T3 X3 e3 hv3
  subst hv3
  show Gf p e below _ T3 m 9 #[vr x1] [(.int 0), (.int 3)]
  refine gs (fun _ k => XS.ishr X3.here hx rfl (hb y d11_9) rfl k) ?_
  exact Gl.retI X3 hx hlk hret (hb y d11_10) e3 (⟨rfl, rfl, rfl⟩) (by decide) (by decide)
theorem rmW030 {l : Launch} {Z : State} {a0 : Array Value} (hw : HW Z a0) {h0 : Heap} (t1 : Addr) (kB : ClassId) (c0 c1 c2 : Int32) (fm : Value) (n0 : Nat) (V1 : Arv Z h0 t1 kB .byte (3 : Int32) [.int (o8 c0), .int (o8 c1), .int (o8 c2)] (.int 0)) (hr : rg c0) (hl : ¬ (255 : Int32) < c0) (SF : sSF Z fm) (rf : fm.isRef = true) (O0 : Old Z n0 h0) : Con l Z my17 bc15 2 (some .char) [] (ro 2 0 0 28) 0 0 #[(.ref t1), (.int 0)] h0 (Pur (fun v => v = some (.int c0)) h0) := by
  refine Con.intro (plainFor_of_name pn_3) ?_
  intro p e s m below meth c s₁ X0 hx y hml hZ hown hnm hret hlk e0 hs0
  refine gs (fun _ k => castTop (ef_17 m t1 (0 : Int32)) k) ?_
  show Gf p e below _ s₁ m 0 #[vr t1, vi 0] []
  refine gs (fun _ k => XS.iloadN X0.here hx rfl (hb y d23_0) rfl (XS.aloadN X0.here hx rfl (hb y d23_1) rfl rfl k)) ?_
  obtain ⟨zcl1, zAr1, zq1, zS1, zM1, zH1, zG1⟩ := id V1
  refine gs (fun _ k => X0.arraylength hx (by rw [e0]; exact (zAr1).1) (State.isArrayOf_alike hZ.alike (zAr1).2.1) (g := (mkF m 2 #[vr t1, vi 0] [(.ref t1), (.int 0)])) rfl rfl (hb y d23_2) _ k) ?_
  rw [len_of zS1 (by decide)]
  show Gf p e below _ s₁ m 3 #[vr t1, vi 0] [(.int 3), (.int 0)]
  refine Gl.callS0 X0 hx hZ (y := my14) hown (w127 hw) (w128 hw) (w4 hw) (w129 hw) (desc_ne (by decide)) (argsL := [(.int 0), (.int 3)]) (rest := []) (rmX2 hw (0 : Int32) (3 : Int32) fm n0 SF rf (by decide) (by decide) O0) 0 (by decide) (by decide) e0 hml.symm pd_10 rfl rfl (Nat.le_of_eq rfl) (hb y d23_3) (by decide) (by decide) ?_
  intro v2 T2 X2 e2 hv2
  subst hv2
  show Gf p e below _ T2 m 6 #[vr t1, vi 0] []
  refine gs (fun _ k => XS.aloadN X2.here hx rfl (hb y d23_6) rfl rfl (XS.iloadN X2.here hx rfl (hb y d23_7) rfl k)) ?_
  obtain ⟨zcl3, zAr3, zq3, zS3, zM3, zH3, zG3⟩ := id V1
  refine gs (fun _ k => X2.baloadBytes hx (j := (0 : Int32)) (v := (.int (o8 c0))) (by rw [e2]; exact (zAr3).1) (State.isArrayOf_alike hZ.alike (zAr3).2.1) (zAr3).2.2 (inb_of zS3 ⟨by decide, by decide⟩) (zH3 0 (by rw [zS3]; decide)) (g := (mkF m 8 #[vr t1, vi 0] [(.int 0), (.ref t1)])) rfl rfl (hb y d23_8) _ k) ?_
  show Gf p e below _ T2 m 9 #[vr t1, vi 0] [(.int (o8 c0))]
  refine gs (fun _ k => XS.sipush X2.here hx rfl (hb y d23_9) (XS.iand X2.here hx rfl (hb y d23_12) rfl (XS.i2c X2.here hx rfl (hb y d23_13) rfl k))) ?_
  exact Gl.retN X2 hx hlk hret (by simp) (hb y d23_14) e2 (⟨congrArg (fun z => some (Value.int z)) (own_l8 hr hl), rfl, rfl⟩) (by decide) (by decide)
theorem rmW031 {l : Launch} {Z : State} {a0 : Array Value} (hw : HW Z a0) {h0 : Heap} (t1 : Addr) (kB : ClassId) (c0 c1 c2 : Int32) (fm : Value) (n0 : Nat) (V1 : Arv Z h0 t1 kB .byte (3 : Int32) [.int (o8 c0), .int (o8 c1), .int (o8 c2)] (.int 0)) (hr : rg c1) (hl : ¬ (255 : Int32) < c1) (SF : sSF Z fm) (rf : fm.isRef = true) (O0 : Old Z n0 h0) : Con l Z my17 bc15 2 (some .char) [] (ro 2 0 0 28) 0 0 #[(.ref t1), (.int 1)] h0 (Pur (fun v => v = some (.int c1)) h0) := by
  refine Con.intro (plainFor_of_name pn_3) ?_
  intro p e s m below meth c s₁ X0 hx y hml hZ hown hnm hret hlk e0 hs0
  refine gs (fun _ k => castTop (ef_17 m t1 (1 : Int32)) k) ?_
  show Gf p e below _ s₁ m 0 #[vr t1, vi 1] []
  refine gs (fun _ k => XS.iloadN X0.here hx rfl (hb y d23_0) rfl (XS.aloadN X0.here hx rfl (hb y d23_1) rfl rfl k)) ?_
  obtain ⟨zcl1, zAr1, zq1, zS1, zM1, zH1, zG1⟩ := id V1
  refine gs (fun _ k => X0.arraylength hx (by rw [e0]; exact (zAr1).1) (State.isArrayOf_alike hZ.alike (zAr1).2.1) (g := (mkF m 2 #[vr t1, vi 1] [(.ref t1), (.int 1)])) rfl rfl (hb y d23_2) _ k) ?_
  rw [len_of zS1 (by decide)]
  show Gf p e below _ s₁ m 3 #[vr t1, vi 1] [(.int 3), (.int 1)]
  refine Gl.callS0 X0 hx hZ (y := my14) hown (w127 hw) (w128 hw) (w4 hw) (w129 hw) (desc_ne (by decide)) (argsL := [(.int 1), (.int 3)]) (rest := []) (rmX2 hw (1 : Int32) (3 : Int32) fm n0 SF rf (by decide) (by decide) O0) 0 (by decide) (by decide) e0 hml.symm pd_10 rfl rfl (Nat.le_of_eq rfl) (hb y d23_3) (by decide) (by decide) ?_
  intro v2 T2 X2 e2 hv2
  subst hv2
  show Gf p e below _ T2 m 6 #[vr t1, vi 1] []
  refine gs (fun _ k => XS.aloadN X2.here hx rfl (hb y d23_6) rfl rfl (XS.iloadN X2.here hx rfl (hb y d23_7) rfl k)) ?_
  obtain ⟨zcl3, zAr3, zq3, zS3, zM3, zH3, zG3⟩ := id V1
  refine gs (fun _ k => X2.baloadBytes hx (j := (1 : Int32)) (v := (.int (o8 c1))) (by rw [e2]; exact (zAr3).1) (State.isArrayOf_alike hZ.alike (zAr3).2.1) (zAr3).2.2 (inb_of zS3 ⟨by decide, by decide⟩) (zH3 1 (by rw [zS3]; decide)) (g := (mkF m 8 #[vr t1, vi 1] [(.int 1), (.ref t1)])) rfl rfl (hb y d23_8) _ k) ?_
  show Gf p e below _ T2 m 9 #[vr t1, vi 1] [(.int (o8 c1))]
  refine gs (fun _ k => XS.sipush X2.here hx rfl (hb y d23_9) (XS.iand X2.here hx rfl (hb y d23_12) rfl (XS.i2c X2.here hx rfl (hb y d23_13) rfl k))) ?_
  exact Gl.retN X2 hx hlk hret (by simp) (hb y d23_14) e2 (⟨congrArg (fun z => some (Value.int z)) (own_l8 hr hl), rfl, rfl⟩) (by decide) (by decide)
theorem rmW032 {l : Launch} {Z : State} {a0 : Array Value} (hw : HW Z a0) {h0 : Heap} (t1 : Addr) (kB : ClassId) (c0 c1 c2 : Int32) (fm : Value) (n0 : Nat) (V1 : Arv Z h0 t1 kB .byte (3 : Int32) [.int (o8 c0), .int (o8 c1), .int (o8 c2)] (.int 0)) (hr : rg c2) (hl : ¬ (255 : Int32) < c2) (SF : sSF Z fm) (rf : fm.isRef = true) (O0 : Old Z n0 h0) : Con l Z my17 bc15 2 (some .char) [] (ro 2 0 0 28) 0 0 #[(.ref t1), (.int 2)] h0 (Pur (fun v => v = some (.int c2)) h0) := by
  refine Con.intro (plainFor_of_name pn_3) ?_
  intro p e s m below meth c s₁ X0 hx y hml hZ hown hnm hret hlk e0 hs0
  refine gs (fun _ k => castTop (ef_17 m t1 (2 : Int32)) k) ?_
  show Gf p e below _ s₁ m 0 #[vr t1, vi 2] []
  refine gs (fun _ k => XS.iloadN X0.here hx rfl (hb y d23_0) rfl (XS.aloadN X0.here hx rfl (hb y d23_1) rfl rfl k)) ?_
  obtain ⟨zcl1, zAr1, zq1, zS1, zM1, zH1, zG1⟩ := id V1
  refine gs (fun _ k => X0.arraylength hx (by rw [e0]; exact (zAr1).1) (State.isArrayOf_alike hZ.alike (zAr1).2.1) (g := (mkF m 2 #[vr t1, vi 2] [(.ref t1), (.int 2)])) rfl rfl (hb y d23_2) _ k) ?_
  rw [len_of zS1 (by decide)]
  show Gf p e below _ s₁ m 3 #[vr t1, vi 2] [(.int 3), (.int 2)]
  refine Gl.callS0 X0 hx hZ (y := my14) hown (w127 hw) (w128 hw) (w4 hw) (w129 hw) (desc_ne (by decide)) (argsL := [(.int 2), (.int 3)]) (rest := []) (rmX2 hw (2 : Int32) (3 : Int32) fm n0 SF rf (by decide) (by decide) O0) 0 (by decide) (by decide) e0 hml.symm pd_10 rfl rfl (Nat.le_of_eq rfl) (hb y d23_3) (by decide) (by decide) ?_
  intro v2 T2 X2 e2 hv2
  subst hv2
  show Gf p e below _ T2 m 6 #[vr t1, vi 2] []
  refine gs (fun _ k => XS.aloadN X2.here hx rfl (hb y d23_6) rfl rfl (XS.iloadN X2.here hx rfl (hb y d23_7) rfl k)) ?_
  obtain ⟨zcl3, zAr3, zq3, zS3, zM3, zH3, zG3⟩ := id V1
  refine gs (fun _ k => X2.baloadBytes hx (j := (2 : Int32)) (v := (.int (o8 c2))) (by rw [e2]; exact (zAr3).1) (State.isArrayOf_alike hZ.alike (zAr3).2.1) (zAr3).2.2 (inb_of zS3 ⟨by decide, by decide⟩) (zH3 2 (by rw [zS3]; decide)) (g := (mkF m 8 #[vr t1, vi 2] [(.int 2), (.ref t1)])) rfl rfl (hb y d23_8) _ k) ?_
  show Gf p e below _ T2 m 9 #[vr t1, vi 2] [(.int (o8 c2))]
  refine gs (fun _ k => XS.sipush X2.here hx rfl (hb y d23_9) (XS.iand X2.here hx rfl (hb y d23_12) rfl (XS.i2c X2.here hx rfl (hb y d23_13) rfl k))) ?_
  exact Gl.retN X2 hx hlk hret (by simp) (hb y d23_14) e2 (⟨congrArg (fun z => some (Value.int z)) (own_l8 hr hl), rfl, rfl⟩) (by decide) (by decide)
theorem rmN31 {l : Launch} {Z : State} {a0 : Array Value} (hw : HW Z a0) {h0 : Heap} (x1 t1 : Addr) (kB : ClassId) (c0 c1 c2 : Int32) (cz : Int32) (n0 : Nat) (E1 : xS Z h0 x1) (Fv : fV Z h0 x1 t1) (Fc : fC Z h0 x1 1) (V1 : Arv Z h0 t1 kB .byte (6 : Int32) [.int (oh c0), .int (ol c0), .int (oh c1), .int (ol c1), .int (oh c2), .int (ol c2)] (.int 0)) (SC : sSC Z cz) (hcz : ¬ cz = 0) (O0 : Old Z n0 h0) : Con l Z my16 bc12 1 (some .int) [] (ro 1 0 0 13) 0 0 #[(.ref x1)] h0 (Pur (fun v => v = some (.int 3)) h0) := by
  refine Con.intro (plainFor_of_name pn_1) ?_
  intro p e s m below meth c s₁ X0 hx y hml hZ hown hnm hret hlk e0 hs0
  refine gs (fun _ k => castTop (ef_16 m x1) k) ?_
  show Gf p e below _ s₁ m 0 #[vr x1] []
  refine gs (fun _ k => XS.aloadN X0.here hx rfl (hb y d11_0) rfl rfl k) ?_
  obtain ⟨T1, X1, e1, st1⟩ := getF X0 hx hZ hown (host := "") (Or.inl (w30 hw)) Via.refl e0 Fv (g := (mkF m 1 #[vr x1] [(.ref x1)])) rfl rfl (hb y d11_1)
  refine Gl.of st1 ?_
  show Gf p e below _ T1 m 4 #[vr x1] [(.ref t1)]
  obtain ⟨zcl2, zAr2, zq2, zS2, zM2, zH2, zG2⟩ := id V1
  refine gs (fun _ k => X1.arraylength hx (by rw [e1]; exact (zAr2).1) (State.isArrayOf_alike hZ.alike (zAr2).2.1) (g := (mkF m 4 #[vr x1] [(.ref t1)])) rfl rfl (hb y d11_4) _ k) ?_
  rw [len_of zS2 (by decide)]
  show Gf p e below _ T1 m 5 #[vr x1] [(.int 6)]
  refine gs (fun _ k => XS.aloadN X1.here hx rfl (hb y d11_5) rfl rfl k) ?_
  refine Gl.callV0 X1 hx hZ (y := my11) (z := my11) hown (w74 hw) (w75 hw) (notFace_of_selects (args := #[]) (mvT hZ (w77 hw))) (w77 hw) (w76 hw) (w78 hw) (w4 hw) (desc_ne (by decide)) (b := x1) (argsL := []) (rest := [(.int 6)]) E1 (rmD1 hw x1 cz n0 Fc SC hcz O0) 1 (by decide) (by decide) e1 hml.symm pd_9 rfl rfl (Nat.le_of_eq rfl) (hb y d11_6) (by decide) (by decide) ?_
  intro v3 T3 X3 e3 hv3
  subst hv3
  show Gf p e below _ T3 m 9 #[vr x1] [(.int 1), (.int 6)]
  refine gs (fun _ k => XS.ishr X3.here hx rfl (hb y d11_9) rfl k) ?_
  exact Gl.retI X3 hx hlk hret (hb y d11_10) e3 (⟨rfl, rfl, rfl⟩) (by decide) (by decide)
theorem rmX34 {l : Launch} {Z : State} {a0 : Array Value} (hw : HW Z a0) {h0 : Heap} (a1 : Addr) (kB : ClassId) (vs : List Value) (V1 : Arv Z h0 a1 kB .byte (8 : Int32) vs (.int 0)) : Con l Z my15 bc28 1 (some .int) [] (ro 0 0 0 0) 0 0 #[(.ref a1)] h0 (Pur (fun v => v = some (.int 4)) h0) := by
  refine Con.intro (plainFor_of_name pn_0) ?_
  intro p e s m below meth c s₁ X0 hx y hml hZ hown hnm hret hlk e0 hs0
  refine gs (fun _ k => castTop (ef_15 m a1) k) ?_
  show Gf p e below _ s₁ m 0 #[vr a1] []
  refine gs (fun _ k => XS.aloadN X0.here hx rfl (hb y d33_0) rfl rfl k) ?_
  obtain ⟨zcl1, zAr1, zq1, zS1, zM1, zH1, zG1⟩ := id V1
  refine gs (fun _ k => X0.arraylength hx (by rw [e0]; exact (zAr1).1) (State.isArrayOf_alike hZ.alike (zAr1).2.1) (g := (mkF m 1 #[vr a1] [(.ref a1)])) rfl rfl (hb y d33_1) _ k) ?_
  rw [len_of zS1 (by decide)]
  show Gf p e below _ s₁ m 2 #[vr a1] [(.int 8)]
  refine gs (fun _ k => XS.iconst X0.here hx rfl (hb y d33_2) (XS.ishr X0.here hx rfl (hb y d33_3) rfl k)) ?_
  exact Gl.retI X0 hx hlk hret (hb y d33_4) e0 (⟨rfl, rfl, rfl⟩) (by decide) (by decide)
theorem rmN40 {l : Launch} {Z : State} {a0 : Array Value} (hw : HW Z a0) {h0 : Heap} (x1 t1 : Addr) (kB : ClassId) (c0 c1 c2 c3 : Int32) (cz : Int32) (n0 : Nat) (E1 : xS Z h0 x1) (Fv : fV Z h0 x1 t1) (Fc : fC Z h0 x1 0) (V1 : Arv Z h0 t1 kB .byte (4 : Int32) [.int (o8 c0), .int (o8 c1), .int (o8 c2), .int (o8 c3)] (.int 0)) (SC : sSC Z cz) (hcz : ¬ cz = 0) (O0 : Old Z n0 h0) : Con l Z my16 bc12 1 (some .int) [] (ro 1 0 0 13) 0 0 #[(.ref x1)] h0 (Pur (fun v => v = some (.int 4)) h0) := by
  refine Con.intro (plainFor_of_name pn_1) ?_
  intro p e s m below meth c s₁ X0 hx y hml hZ hown hnm hret hlk e0 hs0
  refine gs (fun _ k => castTop (ef_16 m x1) k) ?_
  show Gf p e below _ s₁ m 0 #[vr x1] []
  refine gs (fun _ k => XS.aloadN X0.here hx rfl (hb y d11_0) rfl rfl k) ?_
  obtain ⟨T1, X1, e1, st1⟩ := getF X0 hx hZ hown (host := "") (Or.inl (w30 hw)) Via.refl e0 Fv (g := (mkF m 1 #[vr x1] [(.ref x1)])) rfl rfl (hb y d11_1)
  refine Gl.of st1 ?_
  show Gf p e below _ T1 m 4 #[vr x1] [(.ref t1)]
  obtain ⟨zcl2, zAr2, zq2, zS2, zM2, zH2, zG2⟩ := id V1
  refine gs (fun _ k => X1.arraylength hx (by rw [e1]; exact (zAr2).1) (State.isArrayOf_alike hZ.alike (zAr2).2.1) (g := (mkF m 4 #[vr x1] [(.ref t1)])) rfl rfl (hb y d11_4) _ k) ?_
  rw [len_of zS2 (by decide)]
  show Gf p e below _ T1 m 5 #[vr x1] [(.int 4)]
  refine gs (fun _ k => XS.aloadN X1.here hx rfl (hb y d11_5) rfl rfl k) ?_
  refine Gl.callV0 X1 hx hZ (y := my11) (z := my11) hown (w74 hw) (w75 hw) (notFace_of_selects (args := #[]) (mvT hZ (w77 hw))) (w77 hw) (w76 hw) (w78 hw) (w4 hw) (desc_ne (by decide)) (b := x1) (argsL := []) (rest := [(.int 4)]) E1 (rmD0 hw x1 cz n0 Fc SC hcz O0) 1 (by decide) (by decide) e1 hml.symm pd_9 rfl rfl (Nat.le_of_eq rfl) (hb y d11_6) (by decide) (by decide) ?_
  intro v3 T3 X3 e3 hv3
  subst hv3
  show Gf p e below _ T3 m 9 #[vr x1] [(.int 0), (.int 4)]
  refine gs (fun _ k => XS.ishr X3.here hx rfl (hb y d11_9) rfl k) ?_
  exact Gl.retI X3 hx hlk hret (hb y d11_10) e3 (⟨rfl, rfl, rfl⟩) (by decide) (by decide)
theorem rmW040 {l : Launch} {Z : State} {a0 : Array Value} (hw : HW Z a0) {h0 : Heap} (t1 : Addr) (kB : ClassId) (c0 c1 c2 c3 : Int32) (fm : Value) (n0 : Nat) (V1 : Arv Z h0 t1 kB .byte (4 : Int32) [.int (o8 c0), .int (o8 c1), .int (o8 c2), .int (o8 c3)] (.int 0)) (hr : rg c0) (hl : ¬ (255 : Int32) < c0) (SF : sSF Z fm) (rf : fm.isRef = true) (O0 : Old Z n0 h0) : Con l Z my17 bc15 2 (some .char) [] (ro 2 0 0 28) 0 0 #[(.ref t1), (.int 0)] h0 (Pur (fun v => v = some (.int c0)) h0) := by
  refine Con.intro (plainFor_of_name pn_3) ?_
  intro p e s m below meth c s₁ X0 hx y hml hZ hown hnm hret hlk e0 hs0
  refine gs (fun _ k => castTop (ef_17 m t1 (0 : Int32)) k) ?_
  show Gf p e below _ s₁ m 0 #[vr t1, vi 0] []
  refine gs (fun _ k => XS.iloadN X0.here hx rfl (hb y d23_0) rfl (XS.aloadN X0.here hx rfl (hb y d23_1) rfl rfl k)) ?_
  obtain ⟨zcl1, zAr1, zq1, zS1, zM1, zH1, zG1⟩ := id V1
  refine gs (fun _ k => X0.arraylength hx (by rw [e0]; exact (zAr1).1) (State.isArrayOf_alike hZ.alike (zAr1).2.1) (g := (mkF m 2 #[vr t1, vi 0] [(.ref t1), (.int 0)])) rfl rfl (hb y d23_2) _ k) ?_
  rw [len_of zS1 (by decide)]
  show Gf p e below _ s₁ m 3 #[vr t1, vi 0] [(.int 4), (.int 0)]
  refine Gl.callS0 X0 hx hZ (y := my14) hown (w127 hw) (w128 hw) (w4 hw) (w129 hw) (desc_ne (by decide)) (argsL := [(.int 0), (.int 4)]) (rest := []) (rmX2 hw (0 : Int32) (4 : Int32) fm n0 SF rf (by decide) (by decide) O0) 0 (by decide) (by decide) e0 hml.symm pd_10 rfl rfl (Nat.le_of_eq rfl) (hb y d23_3) (by decide) (by decide) ?_
  intro v2 T2 X2 e2 hv2
  subst hv2
  show Gf p e below _ T2 m 6 #[vr t1, vi 0] []
  refine gs (fun _ k => XS.aloadN X2.here hx rfl (hb y d23_6) rfl rfl (XS.iloadN X2.here hx rfl (hb y d23_7) rfl k)) ?_
  obtain ⟨zcl3, zAr3, zq3, zS3, zM3, zH3, zG3⟩ := id V1
  refine gs (fun _ k => X2.baloadBytes hx (j := (0 : Int32)) (v := (.int (o8 c0))) (by rw [e2]; exact (zAr3).1) (State.isArrayOf_alike hZ.alike (zAr3).2.1) (zAr3).2.2 (inb_of zS3 ⟨by decide, by decide⟩) (zH3 0 (by rw [zS3]; decide)) (g := (mkF m 8 #[vr t1, vi 0] [(.int 0), (.ref t1)])) rfl rfl (hb y d23_8) _ k) ?_
  show Gf p e below _ T2 m 9 #[vr t1, vi 0] [(.int (o8 c0))]
  refine gs (fun _ k => XS.sipush X2.here hx rfl (hb y d23_9) (XS.iand X2.here hx rfl (hb y d23_12) rfl (XS.i2c X2.here hx rfl (hb y d23_13) rfl k))) ?_
  exact Gl.retN X2 hx hlk hret (by simp) (hb y d23_14) e2 (⟨congrArg (fun z => some (Value.int z)) (own_l8 hr hl), rfl, rfl⟩) (by decide) (by decide)
theorem rmW041 {l : Launch} {Z : State} {a0 : Array Value} (hw : HW Z a0) {h0 : Heap} (t1 : Addr) (kB : ClassId) (c0 c1 c2 c3 : Int32) (fm : Value) (n0 : Nat) (V1 : Arv Z h0 t1 kB .byte (4 : Int32) [.int (o8 c0), .int (o8 c1), .int (o8 c2), .int (o8 c3)] (.int 0)) (hr : rg c1) (hl : ¬ (255 : Int32) < c1) (SF : sSF Z fm) (rf : fm.isRef = true) (O0 : Old Z n0 h0) : Con l Z my17 bc15 2 (some .char) [] (ro 2 0 0 28) 0 0 #[(.ref t1), (.int 1)] h0 (Pur (fun v => v = some (.int c1)) h0) := by
  refine Con.intro (plainFor_of_name pn_3) ?_
  intro p e s m below meth c s₁ X0 hx y hml hZ hown hnm hret hlk e0 hs0
  refine gs (fun _ k => castTop (ef_17 m t1 (1 : Int32)) k) ?_
  show Gf p e below _ s₁ m 0 #[vr t1, vi 1] []
  refine gs (fun _ k => XS.iloadN X0.here hx rfl (hb y d23_0) rfl (XS.aloadN X0.here hx rfl (hb y d23_1) rfl rfl k)) ?_
  obtain ⟨zcl1, zAr1, zq1, zS1, zM1, zH1, zG1⟩ := id V1
  refine gs (fun _ k => X0.arraylength hx (by rw [e0]; exact (zAr1).1) (State.isArrayOf_alike hZ.alike (zAr1).2.1) (g := (mkF m 2 #[vr t1, vi 1] [(.ref t1), (.int 1)])) rfl rfl (hb y d23_2) _ k) ?_
  rw [len_of zS1 (by decide)]
  show Gf p e below _ s₁ m 3 #[vr t1, vi 1] [(.int 4), (.int 1)]
  refine Gl.callS0 X0 hx hZ (y := my14) hown (w127 hw) (w128 hw) (w4 hw) (w129 hw) (desc_ne (by decide)) (argsL := [(.int 1), (.int 4)]) (rest := []) (rmX2 hw (1 : Int32) (4 : Int32) fm n0 SF rf (by decide) (by decide) O0) 0 (by decide) (by decide) e0 hml.symm pd_10 rfl rfl (Nat.le_of_eq rfl) (hb y d23_3) (by decide) (by decide) ?_
  intro v2 T2 X2 e2 hv2
  subst hv2
  show Gf p e below _ T2 m 6 #[vr t1, vi 1] []
  refine gs (fun _ k => XS.aloadN X2.here hx rfl (hb y d23_6) rfl rfl (XS.iloadN X2.here hx rfl (hb y d23_7) rfl k)) ?_
  obtain ⟨zcl3, zAr3, zq3, zS3, zM3, zH3, zG3⟩ := id V1
  refine gs (fun _ k => X2.baloadBytes hx (j := (1 : Int32)) (v := (.int (o8 c1))) (by rw [e2]; exact (zAr3).1) (State.isArrayOf_alike hZ.alike (zAr3).2.1) (zAr3).2.2 (inb_of zS3 ⟨by decide, by decide⟩) (zH3 1 (by rw [zS3]; decide)) (g := (mkF m 8 #[vr t1, vi 1] [(.int 1), (.ref t1)])) rfl rfl (hb y d23_8) _ k) ?_
  show Gf p e below _ T2 m 9 #[vr t1, vi 1] [(.int (o8 c1))]
  refine gs (fun _ k => XS.sipush X2.here hx rfl (hb y d23_9) (XS.iand X2.here hx rfl (hb y d23_12) rfl (XS.i2c X2.here hx rfl (hb y d23_13) rfl k))) ?_
  exact Gl.retN X2 hx hlk hret (by simp) (hb y d23_14) e2 (⟨congrArg (fun z => some (Value.int z)) (own_l8 hr hl), rfl, rfl⟩) (by decide) (by decide)
theorem rmW042 {l : Launch} {Z : State} {a0 : Array Value} (hw : HW Z a0) {h0 : Heap} (t1 : Addr) (kB : ClassId) (c0 c1 c2 c3 : Int32) (fm : Value) (n0 : Nat) (V1 : Arv Z h0 t1 kB .byte (4 : Int32) [.int (o8 c0), .int (o8 c1), .int (o8 c2), .int (o8 c3)] (.int 0)) (hr : rg c2) (hl : ¬ (255 : Int32) < c2) (SF : sSF Z fm) (rf : fm.isRef = true) (O0 : Old Z n0 h0) : Con l Z my17 bc15 2 (some .char) [] (ro 2 0 0 28) 0 0 #[(.ref t1), (.int 2)] h0 (Pur (fun v => v = some (.int c2)) h0) := by
  refine Con.intro (plainFor_of_name pn_3) ?_
  intro p e s m below meth c s₁ X0 hx y hml hZ hown hnm hret hlk e0 hs0
  refine gs (fun _ k => castTop (ef_17 m t1 (2 : Int32)) k) ?_
  show Gf p e below _ s₁ m 0 #[vr t1, vi 2] []
  refine gs (fun _ k => XS.iloadN X0.here hx rfl (hb y d23_0) rfl (XS.aloadN X0.here hx rfl (hb y d23_1) rfl rfl k)) ?_
  obtain ⟨zcl1, zAr1, zq1, zS1, zM1, zH1, zG1⟩ := id V1
  refine gs (fun _ k => X0.arraylength hx (by rw [e0]; exact (zAr1).1) (State.isArrayOf_alike hZ.alike (zAr1).2.1) (g := (mkF m 2 #[vr t1, vi 2] [(.ref t1), (.int 2)])) rfl rfl (hb y d23_2) _ k) ?_
  rw [len_of zS1 (by decide)]
  show Gf p e below _ s₁ m 3 #[vr t1, vi 2] [(.int 4), (.int 2)]
  refine Gl.callS0 X0 hx hZ (y := my14) hown (w127 hw) (w128 hw) (w4 hw) (w129 hw) (desc_ne (by decide)) (argsL := [(.int 2), (.int 4)]) (rest := []) (rmX2 hw (2 : Int32) (4 : Int32) fm n0 SF rf (by decide) (by decide) O0) 0 (by decide) (by decide) e0 hml.symm pd_10 rfl rfl (Nat.le_of_eq rfl) (hb y d23_3) (by decide) (by decide) ?_
  intro v2 T2 X2 e2 hv2
  subst hv2
  show Gf p e below _ T2 m 6 #[vr t1, vi 2] []
  refine gs (fun _ k => XS.aloadN X2.here hx rfl (hb y d23_6) rfl rfl (XS.iloadN X2.here hx rfl (hb y d23_7) rfl k)) ?_
  obtain ⟨zcl3, zAr3, zq3, zS3, zM3, zH3, zG3⟩ := id V1
  refine gs (fun _ k => X2.baloadBytes hx (j := (2 : Int32)) (v := (.int (o8 c2))) (by rw [e2]; exact (zAr3).1) (State.isArrayOf_alike hZ.alike (zAr3).2.1) (zAr3).2.2 (inb_of zS3 ⟨by decide, by decide⟩) (zH3 2 (by rw [zS3]; decide)) (g := (mkF m 8 #[vr t1, vi 2] [(.int 2), (.ref t1)])) rfl rfl (hb y d23_8) _ k) ?_
  show Gf p e below _ T2 m 9 #[vr t1, vi 2] [(.int (o8 c2))]
  refine gs (fun _ k => XS.sipush X2.here hx rfl (hb y d23_9) (XS.iand X2.here hx rfl (hb y d23_12) rfl (XS.i2c X2.here hx rfl (hb y d23_13) rfl k))) ?_
  exact Gl.retN X2 hx hlk hret (by simp) (hb y d23_14) e2 (⟨congrArg (fun z => some (Value.int z)) (own_l8 hr hl), rfl, rfl⟩) (by decide) (by decide)
theorem rmW043 {l : Launch} {Z : State} {a0 : Array Value} (hw : HW Z a0) {h0 : Heap} (t1 : Addr) (kB : ClassId) (c0 c1 c2 c3 : Int32) (fm : Value) (n0 : Nat) (V1 : Arv Z h0 t1 kB .byte (4 : Int32) [.int (o8 c0), .int (o8 c1), .int (o8 c2), .int (o8 c3)] (.int 0)) (hr : rg c3) (hl : ¬ (255 : Int32) < c3) (SF : sSF Z fm) (rf : fm.isRef = true) (O0 : Old Z n0 h0) : Con l Z my17 bc15 2 (some .char) [] (ro 2 0 0 28) 0 0 #[(.ref t1), (.int 3)] h0 (Pur (fun v => v = some (.int c3)) h0) := by
  refine Con.intro (plainFor_of_name pn_3) ?_
  intro p e s m below meth c s₁ X0 hx y hml hZ hown hnm hret hlk e0 hs0
  refine gs (fun _ k => castTop (ef_17 m t1 (3 : Int32)) k) ?_
  show Gf p e below _ s₁ m 0 #[vr t1, vi 3] []
  refine gs (fun _ k => XS.iloadN X0.here hx rfl (hb y d23_0) rfl (XS.aloadN X0.here hx rfl (hb y d23_1) rfl rfl k)) ?_
  obtain ⟨zcl1, zAr1, zq1, zS1, zM1, zH1, zG1⟩ := id V1
  refine gs (fun _ k => X0.arraylength hx (by rw [e0]; exact (zAr1).1) (State.isArrayOf_alike hZ.alike (zAr1).2.1) (g := (mkF m 2 #[vr t1, vi 3] [(.ref t1), (.int 3)])) rfl rfl (hb y d23_2) _ k) ?_
  rw [len_of zS1 (by decide)]
  show Gf p e below _ s₁ m 3 #[vr t1, vi 3] [(.int 4), (.int 3)]
  refine Gl.callS0 X0 hx hZ (y := my14) hown (w127 hw) (w128 hw) (w4 hw) (w129 hw) (desc_ne (by decide)) (argsL := [(.int 3), (.int 4)]) (rest := []) (rmX2 hw (3 : Int32) (4 : Int32) fm n0 SF rf (by decide) (by decide) O0) 0 (by decide) (by decide) e0 hml.symm pd_10 rfl rfl (Nat.le_of_eq rfl) (hb y d23_3) (by decide) (by decide) ?_
  intro v2 T2 X2 e2 hv2
  subst hv2
  show Gf p e below _ T2 m 6 #[vr t1, vi 3] []
  refine gs (fun _ k => XS.aloadN X2.here hx rfl (hb y d23_6) rfl rfl (XS.iloadN X2.here hx rfl (hb y d23_7) rfl k)) ?_
  obtain ⟨zcl3, zAr3, zq3, zS3, zM3, zH3, zG3⟩ := id V1
  refine gs (fun _ k => X2.baloadBytes hx (j := (3 : Int32)) (v := (.int (o8 c3))) (by rw [e2]; exact (zAr3).1) (State.isArrayOf_alike hZ.alike (zAr3).2.1) (zAr3).2.2 (inb_of zS3 ⟨by decide, by decide⟩) (zH3 3 (by rw [zS3]; decide)) (g := (mkF m 8 #[vr t1, vi 3] [(.int 3), (.ref t1)])) rfl rfl (hb y d23_8) _ k) ?_
  show Gf p e below _ T2 m 9 #[vr t1, vi 3] [(.int (o8 c3))]
  refine gs (fun _ k => XS.sipush X2.here hx rfl (hb y d23_9) (XS.iand X2.here hx rfl (hb y d23_12) rfl (XS.i2c X2.here hx rfl (hb y d23_13) rfl k))) ?_
  exact Gl.retN X2 hx hlk hret (by simp) (hb y d23_14) e2 (⟨congrArg (fun z => some (Value.int z)) (own_l8 hr hl), rfl, rfl⟩) (by decide) (by decide)
theorem rmN41 {l : Launch} {Z : State} {a0 : Array Value} (hw : HW Z a0) {h0 : Heap} (x1 t1 : Addr) (kB : ClassId) (c0 c1 c2 c3 : Int32) (cz : Int32) (n0 : Nat) (E1 : xS Z h0 x1) (Fv : fV Z h0 x1 t1) (Fc : fC Z h0 x1 1) (V1 : Arv Z h0 t1 kB .byte (8 : Int32) [.int (oh c0), .int (ol c0), .int (oh c1), .int (ol c1), .int (oh c2), .int (ol c2), .int (oh c3), .int (ol c3)] (.int 0)) (SC : sSC Z cz) (hcz : ¬ cz = 0) (O0 : Old Z n0 h0) : Con l Z my16 bc12 1 (some .int) [] (ro 1 0 0 13) 0 0 #[(.ref x1)] h0 (Pur (fun v => v = some (.int 4)) h0) := by
  refine Con.intro (plainFor_of_name pn_1) ?_
  intro p e s m below meth c s₁ X0 hx y hml hZ hown hnm hret hlk e0 hs0
  refine gs (fun _ k => castTop (ef_16 m x1) k) ?_
  show Gf p e below _ s₁ m 0 #[vr x1] []
  refine gs (fun _ k => XS.aloadN X0.here hx rfl (hb y d11_0) rfl rfl k) ?_
  obtain ⟨T1, X1, e1, st1⟩ := getF X0 hx hZ hown (host := "") (Or.inl (w30 hw)) Via.refl e0 Fv (g := (mkF m 1 #[vr x1] [(.ref x1)])) rfl rfl (hb y d11_1)
  refine Gl.of st1 ?_
  show Gf p e below _ T1 m 4 #[vr x1] [(.ref t1)]
  obtain ⟨zcl2, zAr2, zq2, zS2, zM2, zH2, zG2⟩ := id V1
  refine gs (fun _ k => X1.arraylength hx (by rw [e1]; exact (zAr2).1) (State.isArrayOf_alike hZ.alike (zAr2).2.1) (g := (mkF m 4 #[vr x1] [(.ref t1)])) rfl rfl (hb y d11_4) _ k) ?_
  rw [len_of zS2 (by decide)]
  show Gf p e below _ T1 m 5 #[vr x1] [(.int 8)]
  refine gs (fun _ k => XS.aloadN X1.here hx rfl (hb y d11_5) rfl rfl k) ?_
  refine Gl.callV0 X1 hx hZ (y := my11) (z := my11) hown (w74 hw) (w75 hw) (notFace_of_selects (args := #[]) (mvT hZ (w77 hw))) (w77 hw) (w76 hw) (w78 hw) (w4 hw) (desc_ne (by decide)) (b := x1) (argsL := []) (rest := [(.int 8)]) E1 (rmD1 hw x1 cz n0 Fc SC hcz O0) 1 (by decide) (by decide) e1 hml.symm pd_9 rfl rfl (Nat.le_of_eq rfl) (hb y d11_6) (by decide) (by decide) ?_
  intro v3 T3 X3 e3 hv3
  subst hv3
  show Gf p e below _ T3 m 9 #[vr x1] [(.int 1), (.int 8)]
  refine gs (fun _ k => XS.ishr X3.here hx rfl (hb y d11_9) rfl k) ?_
  exact Gl.retI X3 hx hlk hret (hb y d11_10) e3 (⟨rfl, rfl, rfl⟩) (by decide) (by decide)
theorem ef_18 (m : MethodId) (x0 : Int32) (x1 : Addr) : entryFrame m #[(.int x0), (.ref x1)] 2 = mkF m 0 #[vi x0, vr x1] [] := by first | (simp [entryFrame, mkF, argsToLocals, Value.category, maxLocals]; done) | rfl
theorem d32_0 : decode bc30 0 = .ok (.iload_n 0, 1) := by decide +kernel
theorem d32_1 : decode bc30 1 = .ok (.aload_n 1, 1) := by decide +kernel
theorem d32_2 : decode bc30 2 = .ok (.invokestatic 48, 3) := by decide +kernel
theorem pd_11 : parseMethodDescriptor "([B)I" = some ⟨[(.array .byte)], some .int⟩ := by decide +kernel
theorem w160 (hw : HW Z a0) : (Jvm.Cond.methodLink "java/lang/StringUTF16" (48 : Nat) ⟨"java/lang/StringUTF16", "length", "([B)I"⟩).before a0 Z = true := hw _ (wm 160 rfl)
theorem w161 (hw : HW Z a0) : (Jvm.Cond.static ⟨"java/lang/StringUTF16", "length", "([B)I"⟩).before a0 Z = true := hw _ (wm 161 rfl)
theorem w162 (hw : HW Z a0) : (Jvm.Cond.code ⟨"java/lang/StringUTF16", "length", "([B)I"⟩ bc28 (1 : Nat) (Option.some Jvm.ClassFile.FieldType.int)).before a0 Z = true := hw _ (wm 162 rfl)
theorem d32_5 : decode bc30 5 = .ok (.invokestatic 414, 3) := by decide +kernel
theorem w163 (hw : HW Z a0) : (Jvm.Cond.methodLink "java/lang/StringUTF16" (414 : Nat) ⟨"java/lang/String", "checkIndex", "(II)V"⟩).before a0 Z = true := hw _ (wm 163 rfl)
theorem d32_8 : decode bc30 8 = .ok (.return_, 1) := by decide +kernel
theorem rmX4 {l : Launch} {Z : State} {a0 : Array Value} (hw : HW Z a0) {h0 : Heap} (t1 : Addr) (pp nn : Int32) (fm : Value) (n0 : Nat) (hL : Con l Z my15 bc28 1 (some .int) [] (ro 0 0 0 0) 0 0 #[(.ref t1)] h0 (Pur (fun v => v = some (.int nn)) h0)) (h1 : ¬ pp < (0 : Int32)) (h2 : pp < nn) (SF : sSF Z fm) (rf : fm.isRef = true) (O0 : Old Z n0 h0) : Con l Z my18 bc30 2 none [] (ro 2 0 0 28) 0 0 #[(.int pp), (.ref t1)] h0 (Pur (fun v => v = none) h0) := by
  refine Con.intro (plainFor_of_name pn_0) ?_
  intro p e s m below meth c s₁ X0 hx y hml hZ hown hnm hret hlk e0 hs0
  refine gs (fun _ k => castTop (ef_18 m pp t1) k) ?_
  show Gf p e below _ s₁ m 0 #[vi pp, vr t1] []
  refine gs (fun _ k => XS.iloadN X0.here hx rfl (hb y d32_0) rfl (XS.aloadN X0.here hx rfl (hb y d32_1) rfl rfl k)) ?_
  refine Gl.callS0 X0 hx hZ (y := my15) hown (w160 hw) (w161 hw) (w19 hw) (w162 hw) (desc_ne (by decide)) (argsL := [(.ref t1)]) (rest := [(.int pp)]) (hL) 1 (by decide) (by decide) e0 hml.symm pd_11 rfl rfl (Nat.le_of_eq rfl) (hb y d32_2) (by decide) (by decide) ?_
  intro v1 T1 X1 e1 hv1
  subst hv1
  show Gf p e below _ T1 m 5 #[vi pp, vr t1] [(.int nn), (.int pp)]
  refine Gl.callS0 X1 hx hZ (y := my14) hown (w163 hw) (w128 hw) (w4 hw) (w129 hw) (desc_ne (by decide)) (argsL := [(.int pp), (.int nn)]) (rest := []) (rmX2 hw pp nn fm n0 SF rf h1 h2 O0) 0 (by decide) (by decide) e1 hml.symm pd_10 rfl rfl (Nat.le_of_eq rfl) (hb y d32_5) (by decide) (by decide) ?_
  intro v2 T2 X2 e2 hv2
  subst hv2
  show Gf p e below _ T2 m 8 #[vi pp, vr t1] []
  exact Gl.ret0 X2 hx hlk hret (hb y d32_8) e2 (⟨rfl, rfl, rfl⟩) (by decide) (by decide)
theorem ef_19 (m : MethodId) (x0 : Addr) (x1 : Int32) : entryFrame m #[(.ref x0), (.int x1)] 2 = mkF m 0 #[vr x0, vi x1] [] := by first | (simp [entryFrame, mkF, argsToLocals, Value.category, maxLocals]; done) | rfl
theorem d31_0 : decode bc29 0 = .ok (.iload_n 1, 1) := by decide +kernel
theorem d31_1 : decode bc29 1 = .ok (.aload_n 0, 1) := by decide +kernel
theorem d31_2 : decode bc29 2 = .ok (.invokestatic 67, 3) := by decide +kernel
theorem pd_12 : parseMethodDescriptor "(I[B)V" = some ⟨[.int, (.array .byte)], none⟩ := by decide +kernel
theorem w157 (hw : HW Z a0) : (Jvm.Cond.methodLink "java/lang/StringUTF16" (67 : Nat) ⟨"java/lang/StringUTF16", "checkIndex", "(I[B)V"⟩).before a0 Z = true := hw _ (wm 157 rfl)
theorem w158 (hw : HW Z a0) : (Jvm.Cond.static ⟨"java/lang/StringUTF16", "checkIndex", "(I[B)V"⟩).before a0 Z = true := hw _ (wm 158 rfl)
theorem w159 (hw : HW Z a0) : (Jvm.Cond.code ⟨"java/lang/StringUTF16", "checkIndex", "(I[B)V"⟩ bc30 (2 : Nat) (Option.none : Option Jvm.ClassFile.FieldType)).before a0 Z = true := hw _ (wm 159 rfl)
theorem d31_5 : decode bc29 5 = .ok (.aload_n 0, 1) := by decide +kernel
theorem d31_6 : decode bc29 6 = .ok (.iload_n 1, 1) := by decide +kernel
theorem d31_7 : decode bc29 7 = .ok (.invokestatic 71, 3) := by decide +kernel
theorem d31_10 : decode bc29 10 = .ok (.ireturn, 1) := by decide +kernel
theorem rmW1 {l : Launch} {Z : State} {a0 : Array Value} (hw : HW Z a0) {h0 : Heap} (t1 : Addr) (pp cc : Int32) (hX : Con l Z my18 bc30 2 none [] (ro 2 0 0 28) 0 0 #[(.int pp), (.ref t1)] h0 (Pur (fun v => v = none) h0)) (hG : Con l Z my5 bc26 2 (some .char) [] (ro 0 0 0 0) 0 0 #[(.ref t1), (.int pp)] h0 (Pur (fun v => v = some (.int cc)) h0)) (hr : rg cc) : Con l Z my19 bc29 2 (some .char) [] (ro 3 0 0 42) 0 0 #[(.ref t1), (.int pp)] h0 (Pur (fun v => v = some (.int cc)) h0) := by
  refine Con.intro (plainFor_of_name pn_0) ?_
  intro p e s m below meth c s₁ X0 hx y hml hZ hown hnm hret hlk e0 hs0
  refine gs (fun _ k => castTop (ef_19 m t1 pp) k) ?_
  show Gf p e below _ s₁ m 0 #[vr t1, vi pp] []
  refine gs (fun _ k => XS.iloadN X0.here hx rfl (hb y d31_0) rfl (XS.aloadN X0.here hx rfl (hb y d31_1) rfl rfl k)) ?_
  refine Gl.callS0 X0 hx hZ (y := my18) hown (w157 hw) (w158 hw) (w19 hw) (w159 hw) (desc_ne (by decide)) (argsL := [(.int pp), (.ref t1)]) (rest := []) (hX) 0 (by decide) (by decide) e0 hml.symm pd_12 rfl rfl (Nat.le_of_eq rfl) (hb y d31_2) (by decide) (by decide) ?_
  intro v1 T1 X1 e1 hv1
  subst hv1
  show Gf p e below _ T1 m 5 #[vr t1, vi pp] []
  refine gs (fun _ k => XS.aloadN X1.here hx rfl (hb y d31_5) rfl rfl (XS.iloadN X1.here hx rfl (hb y d31_6) rfl k)) ?_
  refine Gl.callS0 X1 hx hZ (y := my5) hown (w151 hw) (w152 hw) (w19 hw) (w153 hw) (desc_ne (by decide)) (argsL := [(.ref t1), (.int pp)]) (rest := []) (hG) 0 (by decide) (by decide) e1 hml.symm pd_5 rfl rfl (Nat.le_of_eq rfl) (hb y d31_7) (by decide) (by decide) ?_
  intro v2 T2 X2 e2 hv2
  subst hv2
  show Gf p e below _ T2 m 10 #[vr t1, vi pp] [(.int cc)]
  exact Gl.retN X2 hx hlk hret (by simp) (hb y d31_10) e2 (⟨congrArg (fun z => some (Value.int z)) (own_nc hr), rfl, rfl⟩) (by decide) (by decide)
theorem ef_20 (m : MethodId) (x0 : Addr) (x1 : Int32) : entryFrame m #[(.ref x0), (.int x1)] 2 = mkF m 0 #[vr x0, vi x1] [] := by first | (simp [entryFrame, mkF, argsToLocals, Value.category, maxLocals]; done) | rfl
theorem d22_0 : decode bc13 0 = .ok (.aload_n 0, 1) := by decide +kernel
theorem d22_1 : decode bc13 1 = .ok (.invokevirtual 492, 3) := by decide +kernel
theorem pd_13 : parseMethodDescriptor "()Z" = some ⟨[], some .boolean⟩ := by decide +kernel
theorem w90 (hw : HW Z a0) : (Jvm.Cond.selects "java/lang/String" ⟨"java/lang/String", "isLatin1", "()Z"⟩ ⟨"java/lang/String", "isLatin1", "()Z"⟩).before a0 Z = true := hw _ (wm 90 rfl)
theorem w87 (hw : HW Z a0) : (Jvm.Cond.methodLink "java/lang/String" (492 : Nat) ⟨"java/lang/String", "isLatin1", "()Z"⟩).before a0 Z = true := hw _ (wm 87 rfl)
theorem w88 (hw : HW Z a0) : (Jvm.Cond.declares ⟨"java/lang/String", "isLatin1", "()Z"⟩).before a0 Z = true := hw _ (wm 88 rfl)
theorem w89 (hw : HW Z a0) : (Jvm.Cond.instanceMethod ⟨"java/lang/String", "isLatin1", "()Z"⟩).before a0 Z = true := hw _ (wm 89 rfl)
theorem w91 (hw : HW Z a0) : (Jvm.Cond.code ⟨"java/lang/String", "isLatin1", "()Z"⟩ bc7 (1 : Nat) (Option.some Jvm.ClassFile.FieldType.boolean)).before a0 Z = true := hw _ (wm 91 rfl)
theorem d22_4 : decode bc13 4 = .ok (.ifCond .eq 12, 3) := by decide +kernel
theorem d22_7 : decode bc13 7 = .ok (.aload_n 0, 1) := by decide +kernel
theorem d22_8 : decode bc13 8 = .ok (.getfield 9, 3) := by decide +kernel
theorem d22_11 : decode bc13 11 = .ok (.iload_n 1, 1) := by decide +kernel
theorem d22_12 : decode bc13 12 = .ok (.invokestatic 495, 3) := by decide +kernel
theorem w124 (hw : HW Z a0) : (Jvm.Cond.methodLink "java/lang/String" (495 : Nat) ⟨"java/lang/StringLatin1", "charAt", "([BI)C"⟩).before a0 Z = true := hw _ (wm 124 rfl)
theorem w125 (hw : HW Z a0) : (Jvm.Cond.static ⟨"java/lang/StringLatin1", "charAt", "([BI)C"⟩).before a0 Z = true := hw _ (wm 125 rfl)
theorem w94 (hw : HW Z a0) : (Jvm.Cond.initialized "java/lang/StringLatin1").before a0 Z = true := hw _ (wm 94 rfl)
theorem w126 (hw : HW Z a0) : (Jvm.Cond.code ⟨"java/lang/StringLatin1", "charAt", "([BI)C"⟩ bc15 (2 : Nat) (Option.some Jvm.ClassFile.FieldType.char)).before a0 Z = true := hw _ (wm 126 rfl)
theorem d22_15 : decode bc13 15 = .ok (.ireturn, 1) := by decide +kernel
theorem rmCh0 {l : Launch} {Z : State} {a0 : Array Value} (hw : HW Z a0) {h0 : Heap} (x1 t1 : Addr) (pp cc cz : Int32) (n0 : Nat) (E1 : xS Z h0 x1) (Fv : fV Z h0 x1 t1) (Fc : fC Z h0 x1 0) (hC : Con l Z my17 bc15 2 (some .char) [] (ro 2 0 0 28) 0 0 #[(.ref t1), (.int pp)] h0 (Pur (fun v => v = some (.int cc)) h0)) (hr : rg cc) (SC : sSC Z cz) (hcz : ¬ cz = 0) (O0 : Old Z n0 h0) : Con l Z my20 bc13 2 (some .char) [] (ro 4 0 0 55) 0 0 #[(.ref x1), (.int pp)] h0 (Pur (fun v => v = some (.int cc)) h0) := by
  refine Con.intro (plainFor_of_name pn_1) ?_
  intro p e s m below meth c s₁ X0 hx y hml hZ hown hnm hret hlk e0 hs0
  refine gs (fun _ k => castTop (ef_20 m x1 pp) k) ?_
  show Gf p e below _ s₁ m 0 #[vr x1, vi pp] []
  refine gs (fun _ k => XS.aloadN X0.here hx rfl (hb y d22_0) rfl rfl k) ?_
  refine Gl.callV0 X0 hx hZ (y := my12) (z := my12) hown (w87 hw) (w88 hw) (notFace_of_selects (args := #[]) (mvT hZ (w90 hw))) (w90 hw) (w89 hw) (w91 hw) (w4 hw) (desc_ne (by decide)) (b := x1) (argsL := []) (rest := []) E1 (rmQ0 hw x1 cz n0 Fc SC hcz O0) 0 (by decide) (by decide) e0 hml.symm pd_13 rfl rfl (Nat.le_of_eq rfl) (hb y d22_1) (by decide) (by decide) ?_
  intro v1 T1 X1 e1 hv1
  subst hv1
  show Gf p e below _ T1 m 4 #[vr x1, vi pp] [(.int 1)]
  refine gs (fun _ k => XS.ifNo X1.here hx rfl (hb y d22_4) rfl ((if0 _ _).trans (feq (by decide : ¬ ((1 : Int32) = (0 : Int32)))).1) (XS.aloadN X1.here hx rfl (hb y d22_7) rfl rfl k)) ?_
  obtain ⟨T2, X2, e2, st2⟩ := getF X1 hx hZ hown (host := "") (Or.inl (w30 hw)) Via.refl e1 Fv (g := (mkF m 8 #[vr x1, vi pp] [(.ref x1)])) rfl rfl (hb y d22_8)
  refine Gl.of st2 ?_
  show Gf p e below _ T2 m 11 #[vr x1, vi pp] [(.ref t1)]
  refine gs (fun _ k => XS.iloadN X2.here hx rfl (hb y d22_11) rfl k) ?_
  refine Gl.callS0 X2 hx hZ (y := my17) hown (w124 hw) (w125 hw) (w94 hw) (w126 hw) (desc_ne (by decide)) (argsL := [(.ref t1), (.int pp)]) (rest := []) (hC) 0 (by decide) (by decide) e2 hml.symm pd_5 rfl rfl (Nat.le_of_eq rfl) (hb y d22_12) (by decide) (by decide) ?_
  intro v3 T3 X3 e3 hv3
  subst hv3
  show Gf p e below _ T3 m 15 #[vr x1, vi pp] [(.int cc)]
  exact Gl.retN X3 hx hlk hret (by simp) (hb y d22_15) e3 (⟨congrArg (fun z => some (Value.int z)) (own_nc hr), rfl, rfl⟩) (by decide) (by decide)
theorem d22_16 : decode bc13 16 = .ok (.aload_n 0, 1) := by decide +kernel
theorem d22_17 : decode bc13 17 = .ok (.getfield 9, 3) := by decide +kernel
theorem d22_20 : decode bc13 20 = .ok (.iload_n 1, 1) := by decide +kernel
theorem d22_21 : decode bc13 21 = .ok (.invokestatic 498, 3) := by decide +kernel
theorem w154 (hw : HW Z a0) : (Jvm.Cond.methodLink "java/lang/String" (498 : Nat) ⟨"java/lang/StringUTF16", "charAt", "([BI)C"⟩).before a0 Z = true := hw _ (wm 154 rfl)
theorem w155 (hw : HW Z a0) : (Jvm.Cond.static ⟨"java/lang/StringUTF16", "charAt", "([BI)C"⟩).before a0 Z = true := hw _ (wm 155 rfl)
theorem w156 (hw : HW Z a0) : (Jvm.Cond.code ⟨"java/lang/StringUTF16", "charAt", "([BI)C"⟩ bc29 (2 : Nat) (Option.some Jvm.ClassFile.FieldType.char)).before a0 Z = true := hw _ (wm 156 rfl)
theorem d22_24 : decode bc13 24 = .ok (.ireturn, 1) := by decide +kernel
theorem rmCh1 {l : Launch} {Z : State} {a0 : Array Value} (hw : HW Z a0) {h0 : Heap} (x1 t1 : Addr) (pp cc cz : Int32) (n0 : Nat) (E1 : xS Z h0 x1) (Fv : fV Z h0 x1 t1) (Fc : fC Z h0 x1 1) (hC : Con l Z my19 bc29 2 (some .char) [] (ro 3 0 0 42) 0 0 #[(.ref t1), (.int pp)] h0 (Pur (fun v => v = some (.int cc)) h0)) (hr : rg cc) (SC : sSC Z cz) (hcz : ¬ cz = 0) (O0 : Old Z n0 h0) : Con l Z my20 bc13 2 (some .char) [] (ro 4 0 0 55) 0 0 #[(.ref x1), (.int pp)] h0 (Pur (fun v => v = some (.int cc)) h0) := by
  refine Con.intro (plainFor_of_name pn_1) ?_
  intro p e s m below meth c s₁ X0 hx y hml hZ hown hnm hret hlk e0 hs0
  refine gs (fun _ k => castTop (ef_20 m x1 pp) k) ?_
  show Gf p e below _ s₁ m 0 #[vr x1, vi pp] []
  refine gs (fun _ k => XS.aloadN X0.here hx rfl (hb y d22_0) rfl rfl k) ?_
  refine Gl.callV0 X0 hx hZ (y := my12) (z := my12) hown (w87 hw) (w88 hw) (notFace_of_selects (args := #[]) (mvT hZ (w90 hw))) (w90 hw) (w89 hw) (w91 hw) (w4 hw) (desc_ne (by decide)) (b := x1) (argsL := []) (rest := []) E1 (rmQ1 hw x1 cz n0 Fc SC hcz O0) 0 (by decide) (by decide) e0 hml.symm pd_13 rfl rfl (Nat.le_of_eq rfl) (hb y d22_1) (by decide) (by decide) ?_
  intro v1 T1 X1 e1 hv1
  subst hv1
  show Gf p e below _ T1 m 4 #[vr x1, vi pp] [(.int 0)]
  refine gs (fun _ k => XS.ifYes X1.here hx rfl (pc0 := 4) (pc' := 16) rfl (hb y d22_4) rfl ((if0 _ _).trans (teq (by decide : (0 : Int32) = (0 : Int32))).1) (by decide) (by decide) (XS.aloadN X1.here hx rfl (hb y d22_16) rfl rfl k)) ?_
  obtain ⟨T2, X2, e2, st2⟩ := getF X1 hx hZ hown (host := "") (Or.inl (w30 hw)) Via.refl e1 Fv (g := (mkF m 17 #[vr x1, vi pp] [(.ref x1)])) rfl rfl (hb y d22_17)
  refine Gl.of st2 ?_
  show Gf p e below _ T2 m 20 #[vr x1, vi pp] [(.ref t1)]
  refine gs (fun _ k => XS.iloadN X2.here hx rfl (hb y d22_20) rfl k) ?_
  refine Gl.callS0 X2 hx hZ (y := my19) hown (w154 hw) (w155 hw) (w19 hw) (w156 hw) (desc_ne (by decide)) (argsL := [(.ref t1), (.int pp)]) (rest := []) (hC) 0 (by decide) (by decide) e2 hml.symm pd_5 rfl rfl (Nat.le_of_eq rfl) (hb y d22_21) (by decide) (by decide) ?_
  intro v3 T3 X3 e3 hv3
  subst hv3
  show Gf p e below _ T3 m 24 #[vr x1, vi pp] [(.int cc)]
  exact Gl.retN X3 hx hlk hret (by simp) (hb y d22_24) e3 (⟨congrArg (fun z => some (Value.int z)) (own_nc hr), rfl, rfl⟩) (by decide) (by decide)
theorem ef_21 (m : MethodId) (x0 : Addr) (x1 : Addr) (x2 : Int32) : entryFrame m #[(.ref x0), (.ref x1), (.int x2)] 3 = mkF m 0 #[vr x0, vr x1, vi x2] [] := by first | (simp [entryFrame, mkF, argsToLocals, Value.category, maxLocals]; done) | rfl
theorem d21_0 : decode bc5 0 = .ok (.aload_n 0, 1) := by decide +kernel
theorem d21_1 : decode bc5 1 = .ok (.invokespecial 1, 3) := by decide +kernel
theorem d21_4 : decode bc5 4 = .ok (.aload_n 0, 1) := by decide +kernel
theorem d21_5 : decode bc5 5 = .ok (.aload_n 1, 1) := by decide +kernel
theorem d21_6 : decode bc5 6 = .ok (.putfield 9, 3) := by decide +kernel
theorem d21_9 : decode bc5 9 = .ok (.aload_n 0, 1) := by decide +kernel
theorem d21_10 : decode bc5 10 = .ok (.iload_n 2, 1) := by decide +kernel
theorem d21_11 : decode bc5 11 = .ok (.putfield 15, 3) := by decide +kernel
theorem d21_14 : decode bc5 14 = .ok (.return_, 1) := by decide +kernel
theorem rmV0 {l : Launch} {Z : State} {a0 : Array Value} (hw : HW Z a0) {h0 : Heap} (b1 t1 : Addr) (n0 : Nat) (E1 : xS Z h0 b1) (Fv : Fld Z h0 b1 "java/lang/String" "value" "[B" .null) (Fc : fC Z h0 b1 0) (Gb1 : n0 ≤ b1) (O0 : Old Z n0 h0) : Con l Z my21 bc5 3 none [] (ro 1 0 0 13) 0 0 #[(.ref b1), (.ref t1), (.int 0)] h0 (fun v h L => v = none ∧ Fr n0 L ∧ Keep h0 h [b1] ∧ fV Z h b1 t1 ∧ fC Z h b1 0) := by
  refine Con.intro (plainFor_of_name pn_1) ?_
  intro p e s m below meth c s₁ X0 hx y hml hZ hown hnm hret hlk e0 hs0
  refine gs (fun _ k => castTop (ef_21 m b1 t1 (0 : Int32)) k) ?_
  have K0 := Keep.refl h0 [b1]
  show Gf p e below _ s₁ m 0 #[vr b1, vr t1, vi 0] []
  refine gs (fun _ k => XS.aloadN X0.here hx rfl (hb y d21_0) rfl rfl k) ?_
  obtain ⟨T1, X1, e1, st1⟩ := initO X0 hx hZ hown (w13 hw) (w14 hw) (w15 hw) e0 (g := (mkF m 1 #[vr b1, vr t1, vi 0] [(.ref b1)])) rfl hml.symm rfl (hb y d21_1) (by decide) (W := 0) (by show 2 * 0 + _ ≤ _; exact Nat.le_of_eq rfl) (by decide)
  refine Gl.of st1 ?_
  show Gf p e below _ T1 m 4 #[vr b1, vr t1, vi 0] []
  refine gs (fun _ k => XS.aloadN X1.here hx rfl (hb y d21_4) rfl rfl (XS.aloadN X1.here hx rfl (hb y d21_5) rfl rfl k)) ?_
  obtain ⟨T2, h2, X2, e2, W2, st2⟩ := putF X1 hx hZ hown (host := "") (Or.inl (w30 hw)) Via.refl e1 Fv E1 (Or.inr ⟨(w31 hw), rfl, hnm⟩) (w3 hw) (ty := (.array .byte)) (by decide) rfl rfl (g := (mkF m 6 #[vr b1, vr t1, vi 0] [(.ref t1), (.ref b1)])) rfl rfl (hb y d21_6)
  refine Gl.of st2 ?_
  have F2 : fV Z h2 b1 t1 := Fv.same W2
  have ec3 := E1.wr W2
  have fc4 := Fc.other W2 (Or.inr (slot_ne (Or.inr (w29 hw)) (Or.inr (w31 hw)) (by decide) (t := .byte) (t' := (.array .byte)) (by decide) (by decide)))
  have N2 := Fr.snoc X2 (Fr.nil n0) Gb1
  have O2 := O0.wr W2 Gb1
  have K2 := K0.wr W2 (Or.inl (List.mem_of_getElem? (i := 0) rfl))
  show Gf p e below _ T2 m 9 #[vr b1, vr t1, vi 0] []
  refine gs (fun _ k => XS.aloadN X2.here hx rfl (hb y d21_9) rfl rfl (XS.iloadN X2.here hx rfl (hb y d21_10) rfl k)) ?_
  obtain ⟨T5, h5, X5, e5, W5, st5⟩ := putFN X2 hx hZ hown (w28 hw) Via.refl e2 fc4 ec3 (Or.inr ⟨(w29 hw), rfl, hnm⟩) (w3 hw) (ty := .byte) (v' := (.int (nar .byte (0 : Int32)))) (by decide) rfl (fits_nar_byte _) (g := (mkF m 11 #[vr b1, vr t1, vi 0] [(.int 0), (.ref b1)])) rfl rfl (hb y d21_11)
  refine Gl.of st5 ?_
  have F5 : Fld Z h5 b1 "java/lang/String" "coder" "B" (.int (nar .byte (0 : Int32))) := fc4.same W5
  have ec6 := ec3.wr W5
  have fc7 := F2.other W5 (Or.inr (slot_ne (Or.inr (w31 hw)) (Or.inr (w29 hw)) (by decide) (t := (.array .byte)) (t' := .byte) (by decide) (by decide)))
  have N5 := Fr.snoc X5 N2 Gb1
  have O5 := O2.wr W5 Gb1
  have K5 := K2.wr W5 (Or.inl (List.mem_of_getElem? (i := 0) rfl))
  show Gf p e below _ T5 m 14 #[vr b1, vr t1, vi 0] []
  exact Gl.ret0 X5 hx hlk hret (hb y d21_14) e5 (⟨rfl, N5, K5, fc7, F5⟩) (by decide) (by decide)
theorem rmV1 {l : Launch} {Z : State} {a0 : Array Value} (hw : HW Z a0) {h0 : Heap} (b1 t1 : Addr) (n0 : Nat) (E1 : xS Z h0 b1) (Fv : Fld Z h0 b1 "java/lang/String" "value" "[B" .null) (Fc : fC Z h0 b1 0) (Gb1 : n0 ≤ b1) (O0 : Old Z n0 h0) : Con l Z my21 bc5 3 none [] (ro 1 0 0 13) 0 0 #[(.ref b1), (.ref t1), (.int 1)] h0 (fun v h L => v = none ∧ Fr n0 L ∧ Keep h0 h [b1] ∧ fV Z h b1 t1 ∧ fC Z h b1 1) := by
  refine Con.intro (plainFor_of_name pn_1) ?_
  intro p e s m below meth c s₁ X0 hx y hml hZ hown hnm hret hlk e0 hs0
  refine gs (fun _ k => castTop (ef_21 m b1 t1 (1 : Int32)) k) ?_
  have K0 := Keep.refl h0 [b1]
  show Gf p e below _ s₁ m 0 #[vr b1, vr t1, vi 1] []
  refine gs (fun _ k => XS.aloadN X0.here hx rfl (hb y d21_0) rfl rfl k) ?_
  obtain ⟨T1, X1, e1, st1⟩ := initO X0 hx hZ hown (w13 hw) (w14 hw) (w15 hw) e0 (g := (mkF m 1 #[vr b1, vr t1, vi 1] [(.ref b1)])) rfl hml.symm rfl (hb y d21_1) (by decide) (W := 0) (by show 2 * 0 + _ ≤ _; exact Nat.le_of_eq rfl) (by decide)
  refine Gl.of st1 ?_
  show Gf p e below _ T1 m 4 #[vr b1, vr t1, vi 1] []
  refine gs (fun _ k => XS.aloadN X1.here hx rfl (hb y d21_4) rfl rfl (XS.aloadN X1.here hx rfl (hb y d21_5) rfl rfl k)) ?_
  obtain ⟨T2, h2, X2, e2, W2, st2⟩ := putF X1 hx hZ hown (host := "") (Or.inl (w30 hw)) Via.refl e1 Fv E1 (Or.inr ⟨(w31 hw), rfl, hnm⟩) (w3 hw) (ty := (.array .byte)) (by decide) rfl rfl (g := (mkF m 6 #[vr b1, vr t1, vi 1] [(.ref t1), (.ref b1)])) rfl rfl (hb y d21_6)
  refine Gl.of st2 ?_
  have F2 : fV Z h2 b1 t1 := Fv.same W2
  have ec3 := E1.wr W2
  have fc4 := Fc.other W2 (Or.inr (slot_ne (Or.inr (w29 hw)) (Or.inr (w31 hw)) (by decide) (t := .byte) (t' := (.array .byte)) (by decide) (by decide)))
  have N2 := Fr.snoc X2 (Fr.nil n0) Gb1
  have O2 := O0.wr W2 Gb1
  have K2 := K0.wr W2 (Or.inl (List.mem_of_getElem? (i := 0) rfl))
  show Gf p e below _ T2 m 9 #[vr b1, vr t1, vi 1] []
  refine gs (fun _ k => XS.aloadN X2.here hx rfl (hb y d21_9) rfl rfl (XS.iloadN X2.here hx rfl (hb y d21_10) rfl k)) ?_
  obtain ⟨T5, h5, X5, e5, W5, st5⟩ := putFN X2 hx hZ hown (w28 hw) Via.refl e2 fc4 ec3 (Or.inr ⟨(w29 hw), rfl, hnm⟩) (w3 hw) (ty := .byte) (v' := (.int (nar .byte (1 : Int32)))) (by decide) rfl (fits_nar_byte _) (g := (mkF m 11 #[vr b1, vr t1, vi 1] [(.int 1), (.ref b1)])) rfl rfl (hb y d21_11)
  refine Gl.of st5 ?_
  have F5 : Fld Z h5 b1 "java/lang/String" "coder" "B" (.int (nar .byte (1 : Int32))) := fc4.same W5
  have ec6 := ec3.wr W5
  have fc7 := F2.other W5 (Or.inr (slot_ne (Or.inr (w31 hw)) (Or.inr (w29 hw)) (by decide) (t := (.array .byte)) (t' := .byte) (by decide) (by decide)))
  have N5 := Fr.snoc X5 N2 Gb1
  have O5 := O2.wr W5 Gb1
  have K5 := K2.wr W5 (Or.inl (List.mem_of_getElem? (i := 0) rfl))
  show Gf p e below _ T5 m 14 #[vr b1, vr t1, vi 1] []
  exact Gl.ret0 X5 hx hlk hret (hb y d21_14) e5 (⟨rfl, N5, K5, fc7, F5⟩) (by decide) (by decide)
theorem ef_22 (m : MethodId) (x0 : Int32) (x1 : Int32) (x2 : Int32) (x3 : Value) (hx3 : x3.isRef = true) : entryFrame m #[(.int x0), (.int x1), (.int x2), x3] 4 = mkF m 0 #[vi x0, vi x1, vi x2, .val x3] [] := by rcases ref_cases hx3 with rfl | ⟨_, rfl⟩ <;> (first | (simp [entryFrame, mkF, argsToLocals, Value.category, maxLocals]; done) | rfl)
theorem d39_0 : decode bc3 0 = .ok (.iload_n 2, 1) := by decide +kernel
theorem d39_1 : decode bc3 1 = .ok (.iload_n 0, 1) := by decide +kernel
theorem d39_2 : decode bc3 2 = .ok (.ior, 1) := by decide +kernel
theorem d39_3 : decode bc3 3 = .ok (.iload_n 1, 1) := by decide +kernel
theorem d39_4 : decode bc3 4 = .ok (.ior, 1) := by decide +kernel
theorem d39_5 : decode bc3 5 = .ok (.ifCond .lt 10, 3) := by decide +kernel
theorem d39_8 : decode bc3 8 = .ok (.iload_n 1, 1) := by decide +kernel
theorem d39_9 : decode bc3 9 = .ok (.iload_n 2, 1) := by decide +kernel
theorem d39_10 : decode bc3 10 = .ok (.iload_n 0, 1) := by decide +kernel
theorem d39_11 : decode bc3 11 = .ok (.isub, 1) := by decide +kernel
theorem d39_12 : decode bc3 12 = .ok (.if_icmp .le 11, 3) := by decide +kernel
theorem d39_23 : decode bc3 23 = .ok (.iload_n 0, 1) := by decide +kernel
theorem d39_24 : decode bc3 24 = .ok (.ireturn, 1) := by decide +kernel
theorem rmS1 {l : Launch} {Z : State} {a0 : Array Value} (hw : HW Z a0) {h0 : Heap} (p1 p2 p3 : Int32) (w4 : Value) (r4 : w4.isRef = true) (h1 : ¬ ((p3 ||| p1) ||| p2) < (0 : Int32)) (h2 : ¬ (p3 - p1) < p2) : Con l Z my22 bc3 4 (some .int) [] (ro 0 0 0 0) 0 0 #[(.int p1), (.int p2), (.int p3), w4] h0 (Pur (fun v => v = some (.int p1)) h0) := by
  refine Con.intro (plainFor_of_name pn_2) ?_
  intro p e s m below meth c s₁ X0 hx y hml hZ hown hnm hret hlk e0 hs0
  refine gs (fun _ k => castTop (ef_22 m p1 p2 p3 w4 r4) k) ?_
  show Gf p e below _ s₁ m 0 #[vi p1, vi p2, vi p3, .val w4] []
  refine gs (fun _ k => XS.iloadN X0.here hx rfl (hb y d39_0) rfl (XS.iloadN X0.here hx rfl (hb y d39_1) rfl (XS.ior X0.here hx rfl (hb y d39_2) rfl (XS.iloadN X0.here hx rfl (hb y d39_3) rfl (XS.ior X0.here hx rfl (hb y d39_4) rfl (XS.ifNo X0.here hx rfl (hb y d39_5) rfl ((if0 _ _).trans (flt h1).1) k)))))) ?_
  show Gf p e below _ s₁ m 8 #[vi p1, vi p2, vi p3, .val w4] []
  refine gs (fun _ k => XS.iloadN X0.here hx rfl (hb y d39_8) rfl (XS.iloadN X0.here hx rfl (hb y d39_9) rfl (XS.iloadN X0.here hx rfl (hb y d39_10) rfl (XS.isub X0.here hx rfl (hb y d39_11) rfl (XS.icmpYes X0.here hx rfl (pc0 := 12) (pc' := 23) rfl (hb y d39_12) rfl (flt h2).2.2.2 (by decide) (by decide) (XS.iloadN X0.here hx rfl (hb y d39_23) rfl k)))))) ?_
  show Gf p e below _ s₁ m 24 #[vi p1, vi p2, vi p3, .val w4] [(.int p1)]
  exact Gl.retI X0 hx hlk hret (hb y d39_24) e0 (⟨rfl, rfl, rfl⟩) (by decide) (by decide)
theorem ef_23 (m : MethodId) (x0 : Int32) (x1 : Int32) (x2 : Int32) : entryFrame m #[(.int x0), (.int x1), (.int x2)] 3 = mkF m 0 #[vi x0, vi x1, vi x2] [] := by first | (simp [entryFrame, mkF, argsToLocals, Value.category, maxLocals]; done) | rfl
theorem d38_0 : decode bc9 0 = .ok (.iload_n 0, 1) := by decide +kernel
theorem d38_1 : decode bc9 1 = .ok (.iload_n 1, 1) := by decide +kernel
theorem d38_2 : decode bc9 2 = .ok (.iload_n 2, 1) := by decide +kernel
theorem d38_3 : decode bc9 3 = .ok (.getstatic 1053, 3) := by decide +kernel
theorem d38_6 : decode bc9 6 = .ok (.invokestatic 1065, 3) := by decide +kernel
theorem pd_14 : parseMethodDescriptor "(IIILjava/util/function/BiFunction;)I" = some ⟨[.int, .int, .int, (.object "java/util/function/BiFunction")], some .int⟩ := by decide +kernel
theorem w180 (hw : HW Z a0) : (Jvm.Cond.methodLink "java/lang/String" (1065 : Nat) ⟨"jdk/internal/util/Preconditions", "checkFromIndexSize", "(IIILjava/util/function/BiFunction;)I"⟩).before a0 Z = true := hw _ (wm 180 rfl)
theorem w181 (hw : HW Z a0) : (Jvm.Cond.static ⟨"jdk/internal/util/Preconditions", "checkFromIndexSize", "(IIILjava/util/function/BiFunction;)I"⟩).before a0 Z = true := hw _ (wm 181 rfl)
theorem w182 (hw : HW Z a0) : (Jvm.Cond.code ⟨"jdk/internal/util/Preconditions", "checkFromIndexSize", "(IIILjava/util/function/BiFunction;)I"⟩ bc3 (4 : Nat) (Option.some Jvm.ClassFile.FieldType.int)).before a0 Z = true := hw _ (wm 182 rfl)
theorem d38_9 : decode bc9 9 = .ok (.ireturn, 1) := by decide +kernel
theorem rmS2 {l : Launch} {Z : State} {a0 : Array Value} (hw : HW Z a0) {h0 : Heap} (p1 p2 p3 : Int32) (fm : Value) (n0 : Nat) (SF : sSF Z fm) (rf : fm.isRef = true) (h1 : ¬ ((p3 ||| p1) ||| p2) < (0 : Int32)) (h2 : ¬ (p3 - p1) < p2) (O0 : Old Z n0 h0) : Con l Z my23 bc9 3 (some .int) [] (ro 1 0 0 15) 0 0 #[(.int p1), (.int p2), (.int p3)] h0 (Pur (fun v => v = some (.int p1)) h0) := by
  refine Con.intro (plainFor_of_name pn_1) ?_
  intro p e s m below meth c s₁ X0 hx y hml hZ hown hnm hret hlk e0 hs0
  refine gs (fun _ k => castTop (ef_23 m p1 p2 p3) k) ?_
  show Gf p e below _ s₁ m 0 #[vi p1, vi p2, vi p3] []
  refine gs (fun _ k => XS.iloadN X0.here hx rfl (hb y d38_0) rfl (XS.iloadN X0.here hx rfl (hb y d38_1) rfl (XS.iloadN X0.here hx rfl (hb y d38_2) rfl k))) ?_
  obtain ⟨T1, X1, e1, st1⟩ := getS2 X0 hx hZ hown (host := "") (Or.inl (w82 hw)) Via.refl e0 (SF.ext O0.2) (g := (mkF m 3 #[vi p1, vi p2, vi p3] [(.int p3), (.int p2), (.int p1)])) rfl (hb y d38_3)
  refine Gl.of st1 ?_
  show Gf p e below _ T1 m 6 #[vi p1, vi p2, vi p3] [fm, (.int p3), (.int p2), (.int p1)]
  refine Gl.callS0 X1 hx hZ (y := my22) hown (w180 hw) (w181 hw) (w83 hw) (w182 hw) (desc_ne (by decide)) (argsL := [(.int p1), (.int p2), (.int p3), fm]) (rest := []) (rmS1 hw p1 p2 p3 fm rf h1 h2) 0 (by decide) (by decide) e1 hml.symm pd_14 rfl rfl (Nat.le_of_eq rfl) (hb y d38_6) (by decide) (by decide) ?_
  intro v2 T2 X2 e2 hv2
  subst hv2
  show Gf p e below _ T2 m 9 #[vi p1, vi p2, vi p3] [(.int p1)]
  exact Gl.retI X2 hx hlk hret (hb y d38_9) e2 (⟨rfl, rfl, rfl⟩) (by decide) (by decide)
theorem ef_24 (m : MethodId) (x0 : Int32) (x1 : Int32) (x2 : Addr) : entryFrame m #[(.int x0), (.int x1), (.ref x2)] 3 = mkF m 0 #[vi x0, vi x1, vr x2] [] := by first | (simp [entryFrame, mkF, argsToLocals, Value.category, maxLocals]; done) | rfl
theorem d37_0 : decode bc31 0 = .ok (.iload_n 0, 1) := by decide +kernel
theorem d37_1 : decode bc31 1 = .ok (.iload_n 1, 1) := by decide +kernel
theorem d37_2 : decode bc31 2 = .ok (.aload_n 2, 1) := by decide +kernel
theorem d37_3 : decode bc31 3 = .ok (.invokestatic 48, 3) := by decide +kernel
theorem d37_6 : decode bc31 6 = .ok (.invokestatic 419, 3) := by decide +kernel
theorem pd_15 : parseMethodDescriptor "(III)I" = some ⟨[.int, .int, .int], some .int⟩ := by decide +kernel
theorem w177 (hw : HW Z a0) : (Jvm.Cond.methodLink "java/lang/StringUTF16" (419 : Nat) ⟨"java/lang/String", "checkBoundsOffCount", "(III)I"⟩).before a0 Z = true := hw _ (wm 177 rfl)
theorem w178 (hw : HW Z a0) : (Jvm.Cond.static ⟨"java/lang/String", "checkBoundsOffCount", "(III)I"⟩).before a0 Z = true := hw _ (wm 178 rfl)
theorem w179 (hw : HW Z a0) : (Jvm.Cond.code ⟨"java/lang/String", "checkBoundsOffCount", "(III)I"⟩ bc9 (3 : Nat) (Option.some Jvm.ClassFile.FieldType.int)).before a0 Z = true := hw _ (wm 179 rfl)
theorem d37_9 : decode bc31 9 = .ok (.pop, 1) := by decide +kernel
theorem d37_10 : decode bc31 10 = .ok (.return_, 1) := by decide +kernel
theorem rmS3 {l : Launch} {Z : State} {a0 : Array Value} (hw : HW Z a0) {h0 : Heap} (t1 : Addr) (pp nn : Int32) (fm : Value) (n0 : Nat) (hL : Con l Z my15 bc28 1 (some .int) [] (ro 0 0 0 0) 0 0 #[(.ref t1)] h0 (Pur (fun v => v = some (.int nn)) h0)) (h1 : ¬ ((nn ||| (0 : Int32)) ||| pp) < (0 : Int32)) (h2 : ¬ (nn - (0 : Int32)) < pp) (SF : sSF Z fm) (rf : fm.isRef = true) (O0 : Old Z n0 h0) : Con l Z my24 bc31 3 none [] (ro 2 0 0 29) 0 0 #[(.int 0), (.int pp), (.ref t1)] h0 (Pur (fun v => v = none) h0) := by
  refine Con.intro (plainFor_of_name pn_0) ?_
  intro p e s m below meth c s₁ X0 hx y hml hZ hown hnm hret hlk e0 hs0
  refine gs (fun _ k => castTop (ef_24 m (0 : Int32) pp t1) k) ?_
  show Gf p e below _ s₁ m 0 #[vi 0, vi pp, vr t1] []
  refine gs (fun _ k => XS.iloadN X0.here hx rfl (hb y d37_0) rfl (XS.iloadN X0.here hx rfl (hb y d37_1) rfl (XS.aloadN X0.here hx rfl (hb y d37_2) rfl rfl k))) ?_
  refine Gl.callS0 X0 hx hZ (y := my15) hown (w160 hw) (w161 hw) (w19 hw) (w162 hw) (desc_ne (by decide)) (argsL := [(.ref t1)]) (rest := [(.int pp), (.int 0)]) (hL) 2 (by decide) (by decide) e0 hml.symm pd_11 rfl rfl (Nat.le_of_eq rfl) (hb y d37_3) (by decide) (by decide) ?_
  intro v1 T1 X1 e1 hv1
  subst hv1
  show Gf p e below _ T1 m 6 #[vi 0, vi pp, vr t1] [(.int nn), (.int pp), (.int 0)]
  refine Gl.callS0 X1 hx hZ (y := my23) hown (w177 hw) (w178 hw) (w4 hw) (w179 hw) (desc_ne (by decide)) (argsL := [(.int 0), (.int pp), (.int nn)]) (rest := []) (rmS2 hw (0 : Int32) pp nn fm n0 SF rf h1 h2 O0) 0 (by decide) (by decide) e1 hml.symm pd_15 rfl rfl (Nat.le_of_eq rfl) (hb y d37_6) (by decide) (by decide) ?_
  intro v2 T2 X2 e2 hv2
  subst hv2
  show Gf p e below _ T2 m 9 #[vi 0, vi pp, vr t1] [(.int 0)]
  refine gs (fun _ k => XS.pop X2.here hx rfl (hb y d37_9) rfl rfl k) ?_
  exact Gl.ret0 X2 hx hlk hret (hb y d37_10) e2 (⟨rfl, rfl, rfl⟩) (by decide) (by decide)
theorem ef_25 (m : MethodId) (x0 : Addr) (x1 : Int32) (x2 : Int32) : entryFrame m #[(.ref x0), (.int x1), (.int x2)] 3 = mkF m 0 #[vr x0, vi x1, vi x2] [] := by first | (simp [entryFrame, mkF, argsToLocals, Value.category, maxLocals]; done) | rfl
theorem d16_0 : decode bc16 0 = .ok (.iload_n 2, 1) := by decide +kernel
theorem d16_1 : decode bc16 1 = .ok (.ifCond .ne 6, 3) := by decide +kernel
theorem d16_7 : decode bc16 7 = .ok (.new 1, 3) := by decide +kernel
theorem w96 (hw : HW Z a0) : (Jvm.Cond.classLink "java/lang/StringLatin1" (1 : Nat) "java/lang/String").before a0 Z = true := hw _ (wm 96 rfl)
theorem d16_10 : decode bc16 10 = .ok (.dup, 1) := by decide +kernel
theorem d16_11 : decode bc16 11 = .ok (.aload_n 0, 1) := by decide +kernel
theorem d16_12 : decode bc16 12 = .ok (.iload_n 1, 1) := by decide +kernel
theorem d16_13 : decode bc16 13 = .ok (.iload_n 1, 1) := by decide +kernel
theorem d16_14 : decode bc16 14 = .ok (.iload_n 2, 1) := by decide +kernel
theorem d16_15 : decode bc16 15 = .ok (.iadd, 1) := by decide +kernel
theorem d16_16 : decode bc16 16 = .ok (.invokestatic 232, 3) := by decide +kernel
theorem w97 (hw : HW Z a0) : (Jvm.Cond.methodLink "java/lang/StringLatin1" (232 : Nat) ⟨"java/util/Arrays", "copyOfRange", "([BII)[B"⟩).before a0 Z = true := hw _ (wm 97 rfl)
theorem w98 (hw : HW Z a0) : (Jvm.Cond.static ⟨"java/util/Arrays", "copyOfRange", "([BII)[B"⟩).before a0 Z = true := hw _ (wm 98 rfl)
theorem w99 (hw : HW Z a0) : (Jvm.Cond.initialized "java/util/Arrays").before a0 Z = true := hw _ (wm 99 rfl)
theorem w100 (hw : HW Z a0) : (Jvm.Cond.code ⟨"java/util/Arrays", "copyOfRange", "([BII)[B"⟩ bc32 (3 : Nat) (Option.some (Jvm.ClassFile.FieldType.array Jvm.ClassFile.FieldType.byte))).before a0 Z = true := hw _ (wm 100 rfl)
theorem d16_19 : decode bc16 19 = .ok (.iconst 0, 1) := by decide +kernel
theorem d16_20 : decode bc16 20 = .ok (.invokespecial 112, 3) := by decide +kernel
theorem pd_16 : parseMethodDescriptor "([BB)V" = some ⟨[(.array .byte), .byte], none⟩ := by decide +kernel
theorem w115 (hw : HW Z a0) : (Jvm.Cond.methodLink "java/lang/StringLatin1" (112 : Nat) ⟨"java/lang/String", "<init>", "([BB)V"⟩).before a0 Z = true := hw _ (wm 115 rfl)
theorem w116 (hw : HW Z a0) : (Jvm.Cond.instanceMethod ⟨"java/lang/String", "<init>", "([BB)V"⟩).before a0 Z = true := hw _ (wm 116 rfl)
theorem w117 (hw : HW Z a0) : (Jvm.Cond.code ⟨"java/lang/String", "<init>", "([BB)V"⟩ bc5 (3 : Nat) (Option.none : Option Jvm.ClassFile.FieldType)).before a0 Z = true := hw _ (wm 117 rfl)
theorem d16_23 : decode bc16 23 = .ok (.areturn, 1) := by decide +kernel
theorem rmO21 {l : Launch} {Z : State} {a0 : Array Value} (hw : HW Z a0) {h0 : Heap} (t1 : Addr) (kB : ClassId) (c0 c1 : Int32) (n0 : Nat) (V1 : Arv Z h0 t1 kB .byte (2 : Int32) [.int (o8 c0), .int (o8 c1)] (.int 0)) (hfb : Z.vm.findClass "[B" = some kB) (hl0 : ¬ (255 : Int32) < c0) (O0 : Old Z n0 h0) : Con l Z my25 bc16 3 (some (.object "java/lang/String")) [] (ro 4 2 12 98) 2 12 #[(.ref t1), (.int 0), (.int 1)] h0 (fun v h L => ∃ x t, v = some (.ref x) ∧ xS Z h x ∧ fV Z h x t ∧ ((fC Z h x 0 ∧ Arv Z h t kB .byte (1 : Int32) [.int (o8 c0)] (.int 0) ∧ (¬ (255 : Int32) < c0)) ∨ (fC Z h x 1 ∧ Arv Z h t kB .byte (2 : Int32) [.int (oh c0), .int (ol c0)] (.int 0))) ∧ Keep h0 h [] ∧ Fr n0 L) := by
  refine Con.intro (plainFor_of_name pn_3) ?_
  intro p e s m below meth c s₁ X0 hx y hml hZ hown hnm hret hlk e0 hs0
  refine gs (fun _ k => castTop (ef_25 m t1 (0 : Int32) (1 : Int32)) k) ?_
  have K0 := Keep.refl h0 []
  show Gf p e below _ s₁ m 0 #[vr t1, vi 0, vi 1] []
  refine gs (fun _ k => XS.iloadN X0.here hx rfl (hb y d16_0) rfl (XS.ifYes X0.here hx rfl (pc0 := 1) (pc' := 7) rfl (hb y d16_1) rfl ((if0 _ _).trans (feq (by decide : ¬ ((1 : Int32) = (0 : Int32)))).2) (by decide) (by decide) k)) ?_
  obtain ⟨T1, h1, X1, e1, E1, A1, D1, -, st1⟩ := newO X0 hx hZ hown (w96 hw) (w3 hw) (w4 hw) e0 (g := (mkF m 7 #[vr t1, vi 0, vi 1] [])) rfl (hb y d16_7) (by decide) (by decide)
  obtain ⟨b1, g1⟩ : ∃ z, z = h0.size := ⟨_, rfl⟩
  rw [← g1] at A1 D1 st1
  refine Gl.of st1 ?_
  have Gb1 : n0 ≤ b1 := Nat.le_trans (O0.1 ▸ O0.2.1) (Nat.le_of_eq g1.symm)
  have Jb1 : h0.size ≤ b1 := Nat.le_trans K0.1 (Nat.le_of_eq g1.symm)
  have ne_t1_b1 : t1 ≠ b1 := Nat.ne_of_lt (Nat.lt_of_lt_of_le V1.lt (Nat.le_of_eq g1.symm))
  have vc2 := V1.ext E1
  have O1 := O0.ext E1
  have K1 := K0.ext E1
  have F1_coder : Fld Z h1 b1 "java/lang/String" "coder" "B" (.int 0) := D1 (Or.inr (w29 hw)) (ty := .byte) (by decide)
  have F1_value : Fld Z h1 b1 "java/lang/String" "value" "[B" .null := D1 (Or.inr (w31 hw)) (ty := (.array .byte)) (by decide)
  show Gf p e below _ T1 m 10 #[vr t1, vi 0, vi 1] [(.ref b1)]
  refine gs (fun _ k => XS.dup X1.here hx rfl (hb y d16_10) rfl rfl (XS.aloadN X1.here hx rfl (hb y d16_11) rfl rfl (XS.iloadN X1.here hx rfl (hb y d16_12) rfl (XS.iloadN X1.here hx rfl (hb y d16_13) rfl (XS.iloadN X1.here hx rfl (hb y d16_14) rfl (XS.iadd X1.here hx rfl (hb y d16_15) rfl k)))))) ?_
  show Gf p e below _ T1 m 16 #[vr t1, vi 0, vi 1] [(.int 1), (.int 0), (.ref t1), (.ref b1), (.ref b1)]
  refine Gl.callCor X1 hx hZ hown (w97 hw) (w98 hw) (w99 hw) (w100 hw) (own_cor hw) vc2 hfb (fr := 0) (to := 1) (cap := 8) rfl (by decide) (by decide) (by decide) (by decide) (by decide) (vs' := [.int (o8 c0)]) rfl (n := 1) rfl (by decide) (W := 2) (rest := [(.ref b1), (.ref b1)]) (by decide) (by decide) (by decide) (by decide) e1 rfl rfl hml.symm rfl (Nat.le_of_eq rfl) (hb y d16_16) ?_
  intro r3 T3 X3 E3 Sz3 Vr3
  have ne_t1_r3 : t1 ≠ r3 := Nat.ne_of_lt (Nat.lt_of_lt_of_le vc2.lt Sz3)
  have ne_b1_r3 : b1 ≠ r3 := Nat.ne_of_lt (Nat.lt_of_lt_of_le A1.lt Sz3)
  have Gr3 : n0 ≤ r3 := Nat.le_trans (O1.1 ▸ O1.2.1) Sz3
  have Jr3 : h0.size ≤ r3 := Nat.le_trans K1.1 Sz3
  have vc4 := vc2.ext E3
  have ec5 := A1.ext E3
  have fc6 := F1_coder.ext E3
  have fc7 := F1_value.ext E3
  have O3 := O1.ext E3
  have K3 := K1.ext E3
  show Gf p e below _ T3 m 19 #[vr t1, vi 0, vi 1] [(.ref r3), (.ref b1), (.ref b1)]
  refine gs (fun _ k => XS.iconst X3.here hx rfl (hb y d16_19) k) ?_
  refine Gl.callI X3 hx hZ (y := my21) rfl hown (w115 hw) (w116 hw) (w4 hw) (w117 hw) (desc_ne (by decide)) (rm := ro 1 0 0 13) (b := b1) (argsL := [(.ref r3), (.int 0)]) (rest := [(.ref b1)]) (rmV0 hw b1 r3 n0 ec5 fc7 fc6 Gb1 O3) 1 (by decide) (by decide) (by decide) (by decide) rfl hml.symm pd_16 rfl rfl (Nat.le_of_eq rfl) (hb y d16_20) ?_
  intro v8 T8 L8 X8 hQ8
  obtain ⟨rfl, Nq8, Kq8, Fv8, Fc8⟩ := hQ8
  have N8 := Fr.app (Fr.nil n0) Nq8
  have vc9 := vc4.keep Kq8 (fun q => ne_t1_b1 (List.mem_singleton.mp q))
  have ec10 := ec5.keep Kq8
  have vc11 := Vr3.keep Kq8 (fun q => ne_b1_r3.symm (List.mem_singleton.mp q))
  have O8 := O3.keep Kq8 (allS Gb1 all0)
  have K8 := K3.trans Kq8 (by intro x hx'; cases List.mem_singleton.mp hx'; exact Or.inr Jb1)
  show Gf p e below _ T8 m 23 #[vr t1, vi 0, vi 1] [(.ref b1)]
  exact Gl.retR X8 hx hlk hret rfl rfl (hb y d16_23) rfl (⟨_, _, rfl, ec10, Fv8, Or.inl ⟨Fc8, vc11, hl0⟩, K8, N8⟩) (by decide) (by decide)
theorem ef_26 (m : MethodId) (x0 : Addr) (x1 : Int32) (x2 : Addr) (x3 : Int32) (x4 : Int32) : entryFrame m #[(.ref x0), (.int x1), (.ref x2), (.int x3), (.int x4)] 7 = mkF m 0 #[vr x0, vi x1, vr x2, vi x3, vi x4, vu, vu] [] := by first | (simp [entryFrame, mkF, argsToLocals, Value.category, maxLocals]; done) | rfl
theorem d36_0 : decode bc22 0 = .ok (.iload_n 1, 1) := by decide +kernel
theorem d36_1 : decode bc22 1 = .ok (.iload 4, 2) := by decide +kernel
theorem d36_3 : decode bc22 3 = .ok (.aload_n 0, 1) := by decide +kernel
theorem d36_4 : decode bc22 4 = .ok (.invokestatic 173, 3) := by decide +kernel
theorem pd_17 : parseMethodDescriptor "(II[B)V" = some ⟨[.int, .int, (.array .byte)], none⟩ := by decide +kernel
theorem w174 (hw : HW Z a0) : (Jvm.Cond.methodLink "java/lang/StringUTF16" (173 : Nat) ⟨"java/lang/StringUTF16", "checkBoundsOffCount", "(II[B)V"⟩).before a0 Z = true := hw _ (wm 174 rfl)
theorem w175 (hw : HW Z a0) : (Jvm.Cond.static ⟨"java/lang/StringUTF16", "checkBoundsOffCount", "(II[B)V"⟩).before a0 Z = true := hw _ (wm 175 rfl)
theorem w176 (hw : HW Z a0) : (Jvm.Cond.code ⟨"java/lang/StringUTF16", "checkBoundsOffCount", "(II[B)V"⟩ bc31 (3 : Nat) (Option.none : Option Jvm.ClassFile.FieldType)).before a0 Z = true := hw _ (wm 176 rfl)
theorem d36_7 : decode bc22 7 = .ok (.iconst 0, 1) := by decide +kernel
theorem d36_8 : decode bc22 8 = .ok (.istore 5, 2) := by decide +kernel
theorem d36_10 : decode bc22 10 = .ok (.iload 5, 2) := by decide +kernel
theorem d36_12 : decode bc22 12 = .ok (.iload 4, 2) := by decide +kernel
theorem d36_14 : decode bc22 14 = .ok (.if_icmp .ge 39, 3) := by decide +kernel
theorem d36_17 : decode bc22 17 = .ok (.aload_n 0, 1) := by decide +kernel
theorem d36_18 : decode bc22 18 = .ok (.iload_n 1, 1) := by decide +kernel
theorem d36_19 : decode bc22 19 = .ok (.invokestatic 71, 3) := by decide +kernel
theorem d36_22 : decode bc22 22 = .ok (.istore 6, 2) := by decide +kernel
theorem d36_24 : decode bc22 24 = .ok (.iload 6, 2) := by decide +kernel
theorem d36_26 : decode bc22 26 = .ok (.sipush 255, 3) := by decide +kernel
theorem d36_29 : decode bc22 29 = .ok (.if_icmp .le 6, 3) := by decide +kernel
theorem d36_32 : decode bc22 32 = .ok (.iload 5, 2) := by decide +kernel
theorem d36_34 : decode bc22 34 = .ok (.ireturn, 1) := by decide +kernel
theorem d36_35 : decode bc22 35 = .ok (.aload_n 2, 1) := by decide +kernel
theorem d36_36 : decode bc22 36 = .ok (.iload_n 3, 1) := by decide +kernel
theorem d36_37 : decode bc22 37 = .ok (.iload 6, 2) := by decide +kernel
theorem d36_39 : decode bc22 39 = .ok (.i2b, 1) := by decide +kernel
theorem d36_40 : decode bc22 40 = .ok (.bastore, 1) := by decide +kernel
theorem d36_41 : decode bc22 41 = .ok (.iinc 1 1, 3) := by decide +kernel
theorem d36_44 : decode bc22 44 = .ok (.iinc 3 1, 3) := by decide +kernel
theorem d36_47 : decode bc22 47 = .ok (.iinc 5 1, 3) := by decide +kernel
theorem d36_50 : decode bc22 50 = .ok (.goto (-40), 3) := by decide +kernel
theorem d36_53 : decode bc22 53 = .ok (.iload 4, 2) := by decide +kernel
theorem d36_55 : decode bc22 55 = .ok (.ireturn, 1) := by decide +kernel
theorem rmS621 {l : Launch} {Z : State} {a0 : Array Value} (hw : HW Z a0) {h0 : Heap} (t1 a2 : Addr) (kB : ClassId) (c0 c1 : Int32) (fm : Value) (n0 : Nat) (V1 : Arv Z h0 t1 kB .byte (4 : Int32) [.int (oh c0), .int (ol c0), .int (oh c1), .int (ol c1)] (.int 0)) (V2 : Arv Z h0 a2 kB .byte (1 : Int32) [.int (0 : Int32)] (.int 0)) (hne : ¬ t1 = a2) (Ga2 : n0 ≤ a2) (hr0 : rg c0) (hr1 : rg c1) (SF : sSF Z fm) (rf : fm.isRef = true) (Sa : sSa Z) (Sh : sSh Z) (Sl : sSl Z) (O0 : Old Z n0 h0) : Con l Z my26 bc22 7 (some .int) [] (ro 3 0 0 44) 0 0 #[(.ref t1), (.int 0), (.ref a2), (.int 0), (.int 1)] h0 (fun v h L => ∃ r vs, v = some (.int r) ∧ Fr n0 L ∧ Keep h0 h [a2] ∧ Arv Z h a2 kB .byte (1 : Int32) vs (.int 0) ∧ ((r = (1 : Int32) ∧ vs = [.int (o8 c0)] ∧ (¬ (255 : Int32) < c0)) ∨ (r = (0 : Int32) ∧ (255 : Int32) < c0))) := by
  refine Con.intro (plainFor_of_name pn_0) ?_
  intro p e s m below meth c s₁ X0 hx y hml hZ hown hnm hret hlk e0 hs0
  refine gs (fun _ k => castTop (ef_26 m t1 (0 : Int32) a2 (0 : Int32) (1 : Int32)) k) ?_
  have K0 := Keep.refl h0 [a2]
  show Gf p e below _ s₁ m 0 #[vr t1, vi 0, vr a2, vi 0, vi 1, vu, vu] []
  refine gs (fun _ k => XS.iloadN X0.here hx rfl (hb y d36_0) rfl (XS.iload X0.here hx rfl (hb y d36_1) rfl (XS.aloadN X0.here hx rfl (hb y d36_3) rfl rfl k))) ?_
  refine Gl.callS0 X0 hx hZ (y := my24) hown (w174 hw) (w175 hw) (w19 hw) (w176 hw) (desc_ne (by decide)) (argsL := [(.int 0), (.int 1), (.ref t1)]) (rest := []) (rmS3 hw t1 (1 : Int32) (2 : Int32) fm n0 (rmX32 hw t1 kB _ V1) (by decide) (by decide) SF rf O0) 0 (by decide) (by decide) e0 hml.symm pd_17 rfl rfl (Nat.le_of_eq rfl) (hb y d36_4) (by decide) (by decide) ?_
  intro v1 T1 X1 e1 hv1
  subst hv1
  show Gf p e below _ T1 m 7 #[vr t1, vi 0, vr a2, vi 0, vi 1, vu, vu] []
  refine gs (fun _ k => XS.iconst X1.here hx rfl (hb y d36_7) (XS.istore X1.here hx rfl (hb y d36_8) rfl (l' := #[vr t1, vi 0, vr a2, vi 0, vi 1, vi 0, vu]) rfl (XS.iload X1.here hx rfl (hb y d36_10) rfl (XS.iload X1.here hx rfl (hb y d36_12) rfl (XS.icmpNo X1.here hx rfl (hb y d36_14) rfl (tlt (by decide : (0 : Int32) < (1 : Int32))).2.1 (XS.aloadN X1.here hx rfl (hb y d36_17) rfl rfl k)))))) ?_
  show Gf p e below _ T1 m 18 #[vr t1, vi 0, vr a2, vi 0, vi 1, vi 0, vu] [(.ref t1)]
  refine gs (fun _ k => XS.iloadN X1.here hx rfl (hb y d36_18) rfl k) ?_
  refine Gl.callS0 X1 hx hZ (y := my5) hown (w151 hw) (w152 hw) (w19 hw) (w153 hw) (desc_ne (by decide)) (argsL := [(.ref t1), (.int 0)]) (rest := []) (rmG20 hw t1 kB c0 c1 n0 V1 hr0 Sa Sh Sl O0) 0 (by decide) (by decide) e1 hml.symm pd_5 rfl rfl (Nat.le_of_eq rfl) (hb y d36_19) (by decide) (by decide) ?_
  intro v2 T2 X2 e2 hv2
  subst hv2
  show Gf p e below _ T2 m 22 #[vr t1, vi 0, vr a2, vi 0, vi 1, vi 0, vu] [(.int c0)]
  refine gs (fun _ k => XS.istore X2.here hx rfl (hb y d36_22) rfl (l' := #[vr t1, vi 0, vr a2, vi 0, vi 1, vi 0, vi c0]) rfl (XS.iload X2.here hx rfl (hb y d36_24) rfl (XS.sipush X2.here hx rfl (hb y d36_26) k))) ?_
  by_cases hc29_3 : (255 : Int32) < c0
  · refine Gl.of (fun _ kq_ => XS.icmpNo X2.here hx rfl (hb y d36_29) rfl (tlt hc29_3).2.2.2 kq_) ?_
    refine gs (fun _ k => XS.iload X2.here hx rfl (hb y d36_32) rfl k) ?_
    exact Gl.retI X2 hx hlk hret (hb y d36_34) e2 (⟨_, _, rfl, (Fr.nil n0), K0, V2, Or.inr (⟨rfl, hc29_3⟩)⟩) (by decide) (by decide)
  · refine Gl.of (fun _ kq_ => XS.icmpYes X2.here hx rfl (pc0 := 29) (pc' := 35) rfl (hb y d36_29) rfl (flt hc29_3).2.2.2 (by decide) (by decide) kq_) ?_
    refine gs (fun _ k => XS.aloadN X2.here hx rfl (hb y d36_35) rfl rfl (XS.iloadN X2.here hx rfl (hb y d36_36) rfl k)) ?_
    show Gf p e below _ T2 m 37 #[vr t1, vi 0, vr a2, vi 0, vi 1, vi 0, vi c0] [(.int 0), (.ref a2)]
    refine gs (fun _ k => XS.iload X2.here hx rfl (hb y d36_37) rfl (XS.i2b X2.here hx rfl (hb y d36_39) rfl k)) ?_
    obtain ⟨zcl4, zAr4, zq4, zS4, zM4, zH4, zG4⟩ := id V2
    obtain ⟨T5, h5, X5, e5, W5, st5⟩ := stB X2 hx hZ e2 zAr4 (j := (0 : Int32)) (inb_of zS4 ⟨by decide, by decide⟩) (g := (mkF m 40 #[vr t1, vi 0, vr a2, vi 0, vi 1, vi 0, vi c0] [(.int (c0.toInt8.toInt32)), (.int 0), (.ref a2)])) rfl rfl (hb y d36_40)
    refine Gl.of st5 ?_
    have V5 : Arv Z h5 a2 kB .byte (1 : Int32) [(.int (nar .byte (c0.toInt8.toInt32)))] (.int 0) := Arv.set zAr4 zq4 zS4 zM4 zH4 zG4 (fits_nar_byte _) W5 0 rfl (Nat.le_of_ble_eq_true rfl)
    have vc6 := V1.other W5 hne
    have N5 := Fr.snoc X5 (Fr.nil n0) Ga2
    have O5 := O0.wr W5 Ga2
    have K5 := K0.wr W5 (Or.inl (List.mem_of_getElem? (i := 0) rfl))
    show Gf p e below _ T5 m 41 #[vr t1, vi 0, vr a2, vi 0, vi 1, vi 0, vi c0] []
    refine gs (fun _ k => XS.iinc X5.here hx rfl (hb y d36_41) rfl (l' := #[vr t1, vi 1, vr a2, vi 0, vi 1, vi 0, vi c0]) rfl (XS.iinc X5.here hx rfl (hb y d36_44) rfl (l' := #[vr t1, vi 1, vr a2, vi 1, vi 1, vi 0, vi c0]) rfl (XS.iinc X5.here hx rfl (hb y d36_47) rfl (l' := #[vr t1, vi 1, vr a2, vi 1, vi 1, vi 1, vi c0]) rfl (XS.goto X5.here hx rfl (pc0 := 50) (pc' := 10) rfl (hb y d36_50) (by decide) (by decide) (XS.iload X5.here hx rfl (hb y d36_10) rfl (XS.iload X5.here hx rfl (hb y d36_12) rfl k)))))) ?_
    show Gf p e below _ T5 m 14 #[vr t1, vi 1, vr a2, vi 1, vi 1, vi 1, vi c0] [(.int 1), (.int 1)]
    refine gs (fun _ k => XS.icmpYes X5.here hx rfl (pc0 := 14) (pc' := 53) rfl (hb y d36_14) rfl (flt (by decide : ¬ ((1 : Int32) < (1 : Int32)))).2.1 (by decide) (by decide) (XS.iload X5.here hx rfl (hb y d36_53) rfl k)) ?_
    exact Gl.retI X5 hx hlk hret (hb y d36_55) e5 (⟨_, _, rfl, N5, K5, V5, Or.inl ⟨rfl, rfl, hc29_3⟩⟩) (by decide) (by decide)
theorem ef_27 (m : MethodId) (x0 : Addr) (x1 : Int32) (x2 : Int32) : entryFrame m #[(.ref x0), (.int x1), (.int x2)] 6 = mkF m 0 #[vr x0, vi x1, vi x2, vu, vu, vu] [] := by first | (simp [entryFrame, mkF, argsToLocals, Value.category, maxLocals]; done) | rfl
theorem d35_0 : decode bc20 0 = .ok (.iload_n 2, 1) := by decide +kernel
theorem d35_1 : decode bc20 1 = .ok (.newarray .byte, 2) := by decide +kernel
theorem d35_3 : decode bc20 3 = .ok (.astore_n 3, 1) := by decide +kernel
theorem d35_4 : decode bc20 4 = .ok (.aload_n 0, 1) := by decide +kernel
theorem d35_5 : decode bc20 5 = .ok (.iload_n 1, 1) := by decide +kernel
theorem d35_6 : decode bc20 6 = .ok (.aload_n 3, 1) := by decide +kernel
theorem d35_7 : decode bc20 7 = .ok (.iconst 0, 1) := by decide +kernel
theorem d35_8 : decode bc20 8 = .ok (.iload_n 2, 1) := by decide +kernel
theorem d35_9 : decode bc20 9 = .ok (.invokestatic 123, 3) := by decide +kernel
theorem pd_18 : parseMethodDescriptor "([BI[BII)I" = some ⟨[(.array .byte), .int, (.array .byte), .int, .int], some .int⟩ := by decide +kernel
theorem w171 (hw : HW Z a0) : (Jvm.Cond.methodLink "java/lang/StringUTF16" (123 : Nat) ⟨"java/lang/StringUTF16", "compress", "([BI[BII)I"⟩).before a0 Z = true := hw _ (wm 171 rfl)
theorem w172 (hw : HW Z a0) : (Jvm.Cond.static ⟨"java/lang/StringUTF16", "compress", "([BI[BII)I"⟩).before a0 Z = true := hw _ (wm 172 rfl)
theorem w173 (hw : HW Z a0) : (Jvm.Cond.code ⟨"java/lang/StringUTF16", "compress", "([BI[BII)I"⟩ bc22 (7 : Nat) (Option.some Jvm.ClassFile.FieldType.int)).before a0 Z = true := hw _ (wm 173 rfl)
theorem d35_12 : decode bc20 12 = .ok (.istore 4, 2) := by decide +kernel
theorem d35_14 : decode bc20 14 = .ok (.iload 4, 2) := by decide +kernel
theorem d35_16 : decode bc20 16 = .ok (.iload_n 2, 1) := by decide +kernel
theorem d35_17 : decode bc20 17 = .ok (.if_icmp .eq 47, 3) := by decide +kernel
theorem d35_64 : decode bc20 64 = .ok (.aload_n 3, 1) := by decide +kernel
theorem d35_65 : decode bc20 65 = .ok (.areturn, 1) := by decide +kernel
theorem d35_20 : decode bc20 20 = .ok (.aload_n 0, 1) := by decide +kernel
theorem d35_21 : decode bc20 21 = .ok (.iload_n 1, 1) := by decide +kernel
theorem d35_22 : decode bc20 22 = .ok (.iconst 1, 1) := by decide +kernel
theorem d35_23 : decode bc20 23 = .ok (.ishl, 1) := by decide +kernel
theorem d35_24 : decode bc20 24 = .ok (.iload_n 1, 1) := by decide +kernel
theorem d35_25 : decode bc20 25 = .ok (.iload_n 2, 1) := by decide +kernel
theorem d35_26 : decode bc20 26 = .ok (.iadd, 1) := by decide +kernel
theorem d35_27 : decode bc20 27 = .ok (.invokestatic 11, 3) := by decide +kernel
theorem d35_30 : decode bc20 30 = .ok (.invokestatic 126, 3) := by decide +kernel
theorem w183 (hw : HW Z a0) : (Jvm.Cond.methodLink "java/lang/StringUTF16" (126 : Nat) ⟨"java/util/Arrays", "copyOfRange", "([BII)[B"⟩).before a0 Z = true := hw _ (wm 183 rfl)
theorem d35_33 : decode bc20 33 = .ok (.astore 5, 2) := by decide +kernel
theorem d35_35 : decode bc20 35 = .ok (.aload 5, 2) := by decide +kernel
theorem d35_37 : decode bc20 37 = .ok (.iload 4, 2) := by decide +kernel
theorem d35_39 : decode bc20 39 = .ok (.invokestatic 71, 3) := by decide +kernel
theorem d35_42 : decode bc20 42 = .ok (.sipush 255, 3) := by decide +kernel
theorem d35_45 : decode bc20 45 = .ok (.if_icmp .gt 16, 3) := by decide +kernel
theorem d35_61 : decode bc20 61 = .ok (.aload 5, 2) := by decide +kernel
theorem d35_63 : decode bc20 63 = .ok (.areturn, 1) := by decide +kernel
theorem rmS721 {l : Launch} {Z : State} {a0 : Array Value} (hw : HW Z a0) {h0 : Heap} (t1 : Addr) (kB : ClassId) (c0 c1 : Int32) (fm : Value) (n0 : Nat) (hfb : Z.vm.findClass "[B" = some kB) (V1 : Arv Z h0 t1 kB .byte (4 : Int32) [.int (oh c0), .int (ol c0), .int (oh c1), .int (ol c1)] (.int 0)) (hr0 : rg c0) (hr1 : rg c1) (SF : sSF Z fm) (rf : fm.isRef = true) (Sa : sSa Z) (Sh : sSh Z) (Sl : sSl Z) (O0 : Old Z n0 h0) : Con l Z my27 bc20 6 (some (.array .byte)) [] (ro 4 2 12 98) 2 12 #[(.ref t1), (.int 0), (.int 1)] h0 (fun v h L => ∃ r, v = some (.ref r) ∧ ((Arv Z h r kB .byte (1 : Int32) [.int (o8 c0)] (.int 0) ∧ (¬ (255 : Int32) < c0)) ∨ Arv Z h r kB .byte (2 : Int32) [.int (oh c0), .int (ol c0)] (.int 0)) ∧ Keep h0 h [] ∧ Fr n0 L ∧ n0 ≤ r ∧ h0.size ≤ r) := by
  refine Con.intro (plainFor_of_name pn_0) ?_
  intro p e s m below meth c s₁ X0 hx y hml hZ hown hnm hret hlk e0 hs0
  refine gs (fun _ k => castTop (ef_27 m t1 (0 : Int32) (1 : Int32)) k) ?_
  have K0 := Keep.refl h0 []
  show Gf p e below _ s₁ m 0 #[vr t1, vi 0, vi 1, vu, vu, vu] []
  refine gs (fun _ k => XS.iloadN X0.here hx rfl (hb y d35_0) rfl k) ?_
  obtain ⟨T1, h1, k1, X1, e1, E1, A1, Ex1, st1⟩ := newPE (aty := .byte) X0 hx hZ (w21 hw) e0 (g := (mkF m 1 #[vr t1, vi 0, vi 1, vu, vu, vu] [(.int 1)])) rfl (hb y d35_1) rfl (by decide) (cap := 1) (by decide) (by decide) (by decide) (by decide) (ad := "[B") rfl
  have kq1 := own_fbn A1 Ex1 hfb
  rw [kq1] at A1
  obtain ⟨b1, g1⟩ : ∃ z, z = h0.size := ⟨_, rfl⟩
  rw [← g1] at A1 st1
  refine Gl.of st1 ?_
  have Gb1 : n0 ≤ b1 := Nat.le_trans (O0.1 ▸ O0.2.1) (Nat.le_of_eq g1.symm)
  have Jb1 : h0.size ≤ b1 := Nat.le_trans K0.1 (Nat.le_of_eq g1.symm)
  have ne_t1_b1 : t1 ≠ b1 := Nat.ne_of_lt (Nat.lt_of_lt_of_le V1.lt (Nat.le_of_eq g1.symm))
  have vc2 := V1.ext E1
  have O1 := O0.ext E1
  have K1 := K0.ext E1
  have V1 : Arv Z h1 b1 kB .byte (1 : Int32) [(.int 0)] (.int 0) := (Arv.new A1 (by decide)).pad (pad_rep [] (.int 0) 1)
  show Gf p e below _ T1 m 3 #[vr t1, vi 0, vi 1, vu, vu, vu] [(.ref b1)]
  refine gs (fun _ k => XS.astoreN X1.here hx rfl (hb y d35_3) rfl rfl (l' := #[vr t1, vi 0, vi 1, vr b1, vu, vu]) rfl (XS.aloadN X1.here hx rfl (hb y d35_4) rfl rfl (XS.iloadN X1.here hx rfl (hb y d35_5) rfl (XS.aloadN X1.here hx rfl (hb y d35_6) rfl rfl (XS.iconst X1.here hx rfl (hb y d35_7) (XS.iloadN X1.here hx rfl (hb y d35_8) rfl k)))))) ?_
  show Gf p e below _ T1 m 9 #[vr t1, vi 0, vi 1, vr b1, vu, vu] [(.int 1), (.int 0), (.ref b1), (.int 0), (.ref t1)]
  refine Gl.callS X1 hx hZ (y := my26) hown (w171 hw) (w172 hw) (w19 hw) (w173 hw) (desc_ne (by decide)) (rm := ro 3 0 0 44) (argsL := [(.ref t1), (.int 0), (.ref b1), (.int 0), (.int 1)]) (rest := []) (rmS621 hw t1 b1 kB c0 c1 fm n0 vc2 V1 ne_t1_b1 Gb1 hr0 hr1 SF rf Sa Sh Sl O1) 0 (by decide) (by decide) (by decide) (by decide) e1 hml.symm pd_18 rfl rfl (Nat.le_of_eq rfl) (hb y d35_9) ?_
  intro v3 T3 L3 X3 hQ3
  obtain ⟨z3, vs3, rfl, Nq3, Kq3, Vq3, dj3⟩ := hQ3
  have N3 := Fr.app (Fr.nil n0) Nq3
  have vc4 := vc2.keep Kq3 (fun q => ne_t1_b1 (List.mem_singleton.mp q))
  have O3 := O1.keep Kq3 (allS Gb1 all0)
  have K3 := K1.trans Kq3 (by intro x hx'; cases List.mem_singleton.mp hx'; exact Or.inr Jb1)
  rcases dj3 with ⟨rfl, rfl, le3⟩ | ⟨rfl, hb3⟩
  · show Gf p e below _ T3 m 12 #[vr t1, vi 0, vi 1, vr b1, vu, vu] [(.int 1)]
    refine gs (fun _ k => XS.istore X3.here hx rfl (hb y d35_12) rfl (l' := #[vr t1, vi 0, vi 1, vr b1, vi 1, vu]) rfl (XS.iload X3.here hx rfl (hb y d35_14) rfl (XS.iloadN X3.here hx rfl (hb y d35_16) rfl (XS.icmpYes X3.here hx rfl (pc0 := 17) (pc' := 64) rfl (hb y d35_17) rfl (teq (by decide : (1 : Int32) = (1 : Int32))).1 (by decide) (by decide) (XS.aloadN X3.here hx rfl (hb y d35_64) rfl rfl k))))) ?_
    exact Gl.retR X3 hx hlk hret rfl rfl (hb y d35_65) rfl (⟨_, rfl, Or.inl ⟨Vq3, le3⟩, K3, N3, Gb1, Jb1⟩) (by decide) (by decide)
  · show Gf p e below _ T3 m 12 #[vr t1, vi 0, vi 1, vr b1, vu, vu] [(.int 0)]
    refine gs (fun _ k => XS.istore X3.here hx rfl (hb y d35_12) rfl (l' := #[vr t1, vi 0, vi 1, vr b1, vi 0, vu]) rfl (XS.iload X3.here hx rfl (hb y d35_14) rfl (XS.iloadN X3.here hx rfl (hb y d35_16) rfl (XS.icmpNo X3.here hx rfl (hb y d35_17) rfl (feq (by decide : ¬ ((0 : Int32) = (1 : Int32)))).1 (XS.aloadN X3.here hx rfl (hb y d35_20) rfl rfl (XS.iloadN X3.here hx rfl (hb y d35_21) rfl k)))))) ?_
    show Gf p e below _ T3 m 22 #[vr t1, vi 0, vi 1, vr b1, vi 0, vu] [(.int 0), (.ref t1)]
    refine gs (fun _ k => XS.iconst X3.here hx rfl (hb y d35_22) (XS.ishl X3.here hx rfl (hb y d35_23) rfl k)) ?_
    show Gf p e below _ T3 m 24 #[vr t1, vi 0, vi 1, vr b1, vi 0, vu] [(.int 0), (.ref t1)]
    refine gs (fun _ k => XS.iloadN X3.here hx rfl (hb y d35_24) rfl (XS.iloadN X3.here hx rfl (hb y d35_25) rfl (XS.iadd X3.here hx rfl (hb y d35_26) rfl k))) ?_
    show Gf p e below _ T3 m 27 #[vr t1, vi 0, vi 1, vr b1, vi 0, vu] [(.int 1), (.int 0), (.ref t1)]
    refine Gl.callS0 X3 hx hZ (y := my2) hown (w141 hw) (w142 hw) (w19 hw) (w143 hw) (desc_ne (by decide)) (argsL := [(.int 1)]) (rest := [(.int 0), (.ref t1)]) (rmL1 hw) 2 (by decide) (by decide) rfl hml.symm pd_0 rfl rfl (Nat.le_of_eq rfl) (hb y d35_27) (by decide) (by decide) ?_
    intro v5 T5 X5 e5 hv5
    subst hv5
    show Gf p e below _ T5 m 30 #[vr t1, vi 0, vi 1, vr b1, vi 0, vu] [(.int 2), (.int 0), (.ref t1)]
    refine Gl.callCor X5 hx hZ hown (w183 hw) (w98 hw) (w99 hw) (w100 hw) (own_cor hw) vc4 hfb (fr := 0) (to := 2) (cap := 8) rfl (by decide) (by decide) (by decide) (by decide) (by decide) (vs' := [.int (oh c0), .int (ol c0)]) rfl (n := 2) rfl (by decide) (W := 0) (rest := []) (by decide) (by decide) (by decide) (by decide) e5 rfl rfl hml.symm rfl (Nat.le_of_eq rfl) (hb y d35_30) ?_
    intro r6 T6 X6 E6 Sz6 Vr6
    have ne_t1_r6 : t1 ≠ r6 := Nat.ne_of_lt (Nat.lt_of_lt_of_le vc4.lt Sz6)
    have ne_b1_r6 : b1 ≠ r6 := Nat.ne_of_lt (Nat.lt_of_lt_of_le Vq3.lt Sz6)
    have Gr6 : n0 ≤ r6 := Nat.le_trans (O3.1 ▸ O3.2.1) Sz6
    have Jr6 : h0.size ≤ r6 := Nat.le_trans K3.1 Sz6
    have vc7 := vc4.ext E6
    have vc8 := Vq3.ext E6
    have O6 := O3.ext E6
    have K6 := K3.ext E6
    show Gf p e below _ T6 m 33 #[vr t1, vi 0, vi 1, vr b1, vi 0, vu] [(.ref r6)]
    refine gs (fun _ k => XS.astore X6.here hx rfl (hb y d35_33) rfl rfl (l' := #[vr t1, vi 0, vi 1, vr b1, vi 0, vr r6]) rfl (XS.aload X6.here hx rfl (hb y d35_35) rfl rfl (XS.iload X6.here hx rfl (hb y d35_37) rfl k))) ?_
    refine Gl.callS0 X6 hx hZ (y := my5) hown (w151 hw) (w152 hw) (w19 hw) (w153 hw) (desc_ne (by decide)) (argsL := [(.ref r6), (.int 0)]) (rest := []) (rmG10 hw r6 kB c0 n0 Vr6 hr0 Sa Sh Sl O6) 0 (by decide) (by decide) rfl hml.symm pd_5 rfl rfl (Nat.le_of_eq rfl) (hb y d35_39) (by decide) (by decide) ?_
    intro v9 T9 X9 e9 hv9
    subst hv9
    show Gf p e below _ T9 m 42 #[vr t1, vi 0, vi 1, vr b1, vi 0, vr r6] [(.int c0)]
    refine gs (fun _ k => XS.sipush X9.here hx rfl (hb y d35_42) (XS.icmpYes X9.here hx rfl (pc0 := 45) (pc' := 61) rfl (hb y d35_45) rfl (tlt hb3).2.2.1 (by decide) (by decide) (XS.aload X9.here hx rfl (hb y d35_61) rfl rfl k))) ?_
    exact Gl.retR X9 hx hlk hret rfl rfl (hb y d35_63) e9 (⟨_, rfl, Or.inr Vr6, K6, N3, Gr6, Jr6⟩) (by decide) (by decide)
theorem ef_28 (m : MethodId) (x0 : Addr) (x1 : Int32) (x2 : Int32) : entryFrame m #[(.ref x0), (.int x1), (.int x2)] 5 = mkF m 0 #[vr x0, vi x1, vi x2, vu, vu] [] := by first | (simp [entryFrame, mkF, argsToLocals, Value.category, maxLocals]; done) | rfl
theorem d34_0 : decode bc27 0 = .ok (.iload_n 2, 1) := by decide +kernel
theorem d34_1 : decode bc27 1 = .ok (.ifCond .ne 7, 3) := by decide +kernel
theorem d34_8 : decode bc27 8 = .ok (.getstatic 251, 3) := by decide +kernel
theorem w167 (hw : HW Z a0) : (Jvm.Cond.fieldLink "java/lang/StringUTF16" (251 : Nat) "java/lang/String" "COMPACT_STRINGS" "Z").before a0 Z = true := hw _ (wm 167 rfl)
theorem d34_11 : decode bc27 11 = .ok (.ifCond .eq 28, 3) := by decide +kernel
theorem d34_14 : decode bc27 14 = .ok (.aload_n 0, 1) := by decide +kernel
theorem d34_15 : decode bc27 15 = .ok (.iload_n 1, 1) := by decide +kernel
theorem d34_16 : decode bc27 16 = .ok (.iload_n 2, 1) := by decide +kernel
theorem d34_17 : decode bc27 17 = .ok (.invokestatic 257, 3) := by decide +kernel
theorem pd_19 : parseMethodDescriptor "([BII)[B" = some ⟨[(.array .byte), .int, .int], some (.array .byte)⟩ := by decide +kernel
theorem w168 (hw : HW Z a0) : (Jvm.Cond.methodLink "java/lang/StringUTF16" (257 : Nat) ⟨"java/lang/StringUTF16", "compress", "([BII)[B"⟩).before a0 Z = true := hw _ (wm 168 rfl)
theorem w169 (hw : HW Z a0) : (Jvm.Cond.static ⟨"java/lang/StringUTF16", "compress", "([BII)[B"⟩).before a0 Z = true := hw _ (wm 169 rfl)
theorem w170 (hw : HW Z a0) : (Jvm.Cond.code ⟨"java/lang/StringUTF16", "compress", "([BII)[B"⟩ bc20 (6 : Nat) (Option.some (Jvm.ClassFile.FieldType.array Jvm.ClassFile.FieldType.byte))).before a0 Z = true := hw _ (wm 170 rfl)
theorem d34_20 : decode bc27 20 = .ok (.astore_n 3, 1) := by decide +kernel
theorem d34_21 : decode bc27 21 = .ok (.aload_n 3, 1) := by decide +kernel
theorem d34_22 : decode bc27 22 = .ok (.iload_n 2, 1) := by decide +kernel
theorem d34_23 : decode bc27 23 = .ok (.invokestatic 259, 3) := by decide +kernel
theorem w184 (hw : HW Z a0) : (Jvm.Cond.methodLink "java/lang/StringUTF16" (259 : Nat) ⟨"java/lang/StringUTF16", "coderFromArrayLen", "([BI)B"⟩).before a0 Z = true := hw _ (wm 184 rfl)
theorem d34_26 : decode bc27 26 = .ok (.istore 4, 2) := by decide +kernel
theorem d34_28 : decode bc27 28 = .ok (.new 3, 3) := by decide +kernel
theorem w185 (hw : HW Z a0) : (Jvm.Cond.classLink "java/lang/StringUTF16" (3 : Nat) "java/lang/String").before a0 Z = true := hw _ (wm 185 rfl)
theorem d34_31 : decode bc27 31 = .ok (.dup, 1) := by decide +kernel
theorem d34_32 : decode bc27 32 = .ok (.aload_n 3, 1) := by decide +kernel
theorem d34_33 : decode bc27 33 = .ok (.iload 4, 2) := by decide +kernel
theorem d34_35 : decode bc27 35 = .ok (.invokespecial 263, 3) := by decide +kernel
theorem w186 (hw : HW Z a0) : (Jvm.Cond.methodLink "java/lang/StringUTF16" (263 : Nat) ⟨"java/lang/String", "<init>", "([BB)V"⟩).before a0 Z = true := hw _ (wm 186 rfl)
theorem d34_38 : decode bc27 38 = .ok (.areturn, 1) := by decide +kernel
theorem rmS821 {l : Launch} {Z : State} {a0 : Array Value} (hw : HW Z a0) {h0 : Heap} (t1 : Addr) (kB : ClassId) (c0 c1 : Int32) (cz : Int32) (fm : Value) (n0 : Nat) (hfb : Z.vm.findClass "[B" = some kB) (V1 : Arv Z h0 t1 kB .byte (4 : Int32) [.int (oh c0), .int (ol c0), .int (oh c1), .int (ol c1)] (.int 0)) (hr0 : rg c0) (hr1 : rg c1) (SC : sSC Z cz) (hcz : ¬ cz = 0) (SF : sSF Z fm) (rf : fm.isRef = true) (Sa : sSa Z) (Sh : sSh Z) (Sl : sSl Z) (O0 : Old Z n0 h0) : Con l Z my28 bc27 5 (some (.object "java/lang/String")) [] (ro 5 3 20 118) 3 20 #[(.ref t1), (.int 0), (.int 1)] h0 (fun v h L => ∃ x t, v = some (.ref x) ∧ xS Z h x ∧ fV Z h x t ∧ ((fC Z h x 0 ∧ Arv Z h t kB .byte (1 : Int32) [.int (o8 c0)] (.int 0) ∧ (¬ (255 : Int32) < c0)) ∨ (fC Z h x 1 ∧ Arv Z h t kB .byte (2 : Int32) [.int (oh c0), .int (ol c0)] (.int 0))) ∧ Keep h0 h [] ∧ Fr n0 L) := by
  refine Con.intro (plainFor_of_name pn_0) ?_
  intro p e s m below meth c s₁ X0 hx y hml hZ hown hnm hret hlk e0 hs0
  refine gs (fun _ k => castTop (ef_28 m t1 (0 : Int32) (1 : Int32)) k) ?_
  have K0 := Keep.refl h0 []
  show Gf p e below _ s₁ m 0 #[vr t1, vi 0, vi 1, vu, vu] []
  refine gs (fun _ k => XS.iloadN X0.here hx rfl (hb y d34_0) rfl (XS.ifYes X0.here hx rfl (pc0 := 1) (pc' := 8) rfl (hb y d34_1) rfl ((if0 _ _).trans (feq (by decide : ¬ ((1 : Int32) = (0 : Int32)))).2) (by decide) (by decide) k)) ?_
  obtain ⟨T1, X1, e1, st1⟩ := getS2 X0 hx hZ hown (host := "") (Or.inl (w167 hw)) Via.refl e0 (SC.ext O0.2) (g := (mkF m 8 #[vr t1, vi 0, vi 1, vu, vu] [])) rfl (hb y d34_8)
  refine Gl.of st1 ?_
  show Gf p e below _ T1 m 11 #[vr t1, vi 0, vi 1, vu, vu] [(.int cz)]
  refine gs (fun _ k => XS.ifNo X1.here hx rfl (hb y d34_11) rfl ((if0 _ _).trans (feq hcz).1) (XS.aloadN X1.here hx rfl (hb y d34_14) rfl rfl (XS.iloadN X1.here hx rfl (hb y d34_15) rfl (XS.iloadN X1.here hx rfl (hb y d34_16) rfl k)))) ?_
  refine Gl.callS X1 hx hZ (y := my27) hown (w168 hw) (w169 hw) (w19 hw) (w170 hw) (desc_ne (by decide)) (rm := ro 4 2 12 98) (argsL := [(.ref t1), (.int 0), (.int 1)]) (rest := []) (rmS721 hw t1 kB c0 c1 fm n0 hfb V1 hr0 hr1 SF rf Sa Sh Sl O0) 0 (by decide) (by decide) (by decide) (by decide) e1 hml.symm pd_19 rfl rfl (Nat.le_of_eq rfl) (hb y d34_17) ?_
  intro v2 T2 L2 X2 hQ2
  obtain ⟨r2, rfl, dj2, Kq2, Nq2, Gr2, H2⟩ := hQ2
  have N2 := Fr.app (Fr.nil n0) Nq2
  have ne_t1_r2 : t1 ≠ r2 := Nat.ne_of_lt (Nat.lt_of_lt_of_le V1.lt H2)
  have Jr2 : h0.size ≤ r2 := Nat.le_trans K0.1 H2
  have vc3 := V1.keep Kq2 (by simp)
  have O2 := O0.keep Kq2 all0
  have K2 := K0.trans Kq2 (by intro x hx'; exact nomatch hx')
  rcases dj2 with ⟨Vq2, le2⟩ | Vq2
  · show Gf p e below _ T2 m 20 #[vr t1, vi 0, vi 1, vu, vu] [(.ref r2)]
    refine gs (fun _ k => XS.astoreN X2.here hx rfl (hb y d34_20) rfl rfl (l' := #[vr t1, vi 0, vi 1, vr r2, vu]) rfl (XS.aloadN X2.here hx rfl (hb y d34_21) rfl rfl (XS.iloadN X2.here hx rfl (hb y d34_22) rfl k))) ?_
    refine Gl.callS0 X2 hx hZ (y := my8) hown (w184 hw) (w26 hw) (w19 hw) (w27 hw) (desc_ne (by decide)) (argsL := [(.ref r2), (.int 1)]) (rest := []) (rmZ10 hw r2 kB _ Vq2) 0 (by decide) (by decide) rfl hml.symm pd_6 rfl rfl (Nat.le_of_eq rfl) (hb y d34_23) (by decide) (by decide) ?_
    intro v4 T4 X4 e4 hv4
    subst hv4
    show Gf p e below _ T4 m 26 #[vr t1, vi 0, vi 1, vr r2, vu] [(.int 0)]
    refine gs (fun _ k => XS.istore X4.here hx rfl (hb y d34_26) rfl (l' := #[vr t1, vi 0, vi 1, vr r2, vi 0]) rfl k) ?_
    obtain ⟨T5, h5, X5, e5, E5, A5, D5, -, st5⟩ := newO X4 hx hZ hown (w185 hw) (w3 hw) (w4 hw) e4 (g := (mkF m 28 #[vr t1, vi 0, vi 1, vr r2, vi 0] [])) rfl (hb y d34_28) (by decide) (by decide)
    obtain ⟨b5, g5⟩ : ∃ z, z = T2.heap.size := ⟨_, rfl⟩
    rw [← g5] at A5 D5 st5
    refine Gl.of st5 ?_
    have Gb5 : n0 ≤ b5 := Nat.le_trans (O2.1 ▸ O2.2.1) (Nat.le_of_eq g5.symm)
    have Jb5 : h0.size ≤ b5 := Nat.le_trans K2.1 (Nat.le_of_eq g5.symm)
    have ne_t1_b5 : t1 ≠ b5 := Nat.ne_of_lt (Nat.lt_of_lt_of_le vc3.lt (Nat.le_of_eq g5.symm))
    have ne_r2_b5 : r2 ≠ b5 := Nat.ne_of_lt (Nat.lt_of_lt_of_le Vq2.lt (Nat.le_of_eq g5.symm))
    have vc6 := vc3.ext E5
    have vc7 := Vq2.ext E5
    have O5 := O2.ext E5
    have K5 := K2.ext E5
    have F5_coder : Fld Z h5 b5 "java/lang/String" "coder" "B" (.int 0) := D5 (Or.inr (w29 hw)) (ty := .byte) (by decide)
    have F5_value : Fld Z h5 b5 "java/lang/String" "value" "[B" .null := D5 (Or.inr (w31 hw)) (ty := (.array .byte)) (by decide)
    show Gf p e below _ T5 m 31 #[vr t1, vi 0, vi 1, vr r2, vi 0] [(.ref b5)]
    refine gs (fun _ k => XS.dup X5.here hx rfl (hb y d34_31) rfl rfl (XS.aloadN X5.here hx rfl (hb y d34_32) rfl rfl (XS.iload X5.here hx rfl (hb y d34_33) rfl k))) ?_
    refine Gl.callI X5 hx hZ (y := my21) rfl hown (w186 hw) (w116 hw) (w4 hw) (w117 hw) (desc_ne (by decide)) (rm := ro 1 0 0 13) (b := b5) (argsL := [(.ref r2), (.int 0)]) (rest := [(.ref b5)]) (rmV0 hw b5 r2 n0 A5 F5_value F5_coder Gb5 O5) 1 (by decide) (by decide) (by decide) (by decide) e5 hml.symm pd_16 rfl rfl (Nat.le_of_eq rfl) (hb y d34_35) ?_
    intro v8 T8 L8 X8 hQ8
    obtain ⟨rfl, Nq8, Kq8, Fv8, Fc8⟩ := hQ8
    have N8 := Fr.app N2 Nq8
    have vc9 := vc6.keep Kq8 (fun q => ne_t1_b5 (List.mem_singleton.mp q))
    have vc10 := vc7.keep Kq8 (fun q => ne_r2_b5 (List.mem_singleton.mp q))
    have ec11 := A5.keep Kq8
    have O8 := O5.keep Kq8 (allS Gb5 all0)
    have K8 := K5.trans Kq8 (by intro x hx'; cases List.mem_singleton.mp hx'; exact Or.inr Jb5)
    show Gf p e below _ T8 m 38 #[vr t1, vi 0, vi 1, vr r2, vi 0] [(.ref b5)]
    exact Gl.retR X8 hx hlk hret rfl rfl (hb y d34_38) rfl (⟨_, _, rfl, ec11, Fv8, Or.inl ⟨Fc8, vc10, le2⟩, K8, N8⟩) (by decide) (by decide)
  · show Gf p e below _ T2 m 20 #[vr t1, vi 0, vi 1, vu, vu] [(.ref r2)]
    refine gs (fun _ k => XS.astoreN X2.here hx rfl (hb y d34_20) rfl rfl (l' := #[vr t1, vi 0, vi 1, vr r2, vu]) rfl (XS.aloadN X2.here hx rfl (hb y d34_21) rfl rfl (XS.iloadN X2.here hx rfl (hb y d34_22) rfl k))) ?_
    refine Gl.callS0 X2 hx hZ (y := my8) hown (w184 hw) (w26 hw) (w19 hw) (w27 hw) (desc_ne (by decide)) (argsL := [(.ref r2), (.int 1)]) (rest := []) (rmZ11 hw r2 kB _ Vq2) 0 (by decide) (by decide) rfl hml.symm pd_6 rfl rfl (Nat.le_of_eq rfl) (hb y d34_23) (by decide) (by decide) ?_
    intro v12 T12 X12 e12 hv12
    subst hv12
    show Gf p e below _ T12 m 26 #[vr t1, vi 0, vi 1, vr r2, vu] [(.int 1)]
    refine gs (fun _ k => XS.istore X12.here hx rfl (hb y d34_26) rfl (l' := #[vr t1, vi 0, vi 1, vr r2, vi 1]) rfl k) ?_
    obtain ⟨T13, h13, X13, e13, E13, A13, D13, -, st13⟩ := newO X12 hx hZ hown (w185 hw) (w3 hw) (w4 hw) e12 (g := (mkF m 28 #[vr t1, vi 0, vi 1, vr r2, vi 1] [])) rfl (hb y d34_28) (by decide) (by decide)
    obtain ⟨b13, g13⟩ : ∃ z, z = T2.heap.size := ⟨_, rfl⟩
    rw [← g13] at A13 D13 st13
    refine Gl.of st13 ?_
    have Gb13 : n0 ≤ b13 := Nat.le_trans (O2.1 ▸ O2.2.1) (Nat.le_of_eq g13.symm)
    have Jb13 : h0.size ≤ b13 := Nat.le_trans K2.1 (Nat.le_of_eq g13.symm)
    have ne_t1_b13 : t1 ≠ b13 := Nat.ne_of_lt (Nat.lt_of_lt_of_le vc3.lt (Nat.le_of_eq g13.symm))
    have ne_r2_b13 : r2 ≠ b13 := Nat.ne_of_lt (Nat.lt_of_lt_of_le Vq2.lt (Nat.le_of_eq g13.symm))
    have vc14 := vc3.ext E13
    have vc15 := Vq2.ext E13
    have O13 := O2.ext E13
    have K13 := K2.ext E13
    have F13_coder : Fld Z h13 b13 "java/lang/String" "coder" "B" (.int 0) := D13 (Or.inr (w29 hw)) (ty := .byte) (by decide)
    have F13_value : Fld Z h13 b13 "java/lang/String" "value" "[B" .null := D13 (Or.inr (w31 hw)) (ty := (.array .byte)) (by decide)
    show Gf p e below _ T13 m 31 #[vr t1, vi 0, vi 1, vr r2, vi 1] [(.ref b13)]
    refine gs (fun _ k => XS.dup X13.here hx rfl (hb y d34_31) rfl rfl (XS.aloadN X13.here hx rfl (hb y d34_32) rfl rfl (XS.iload X13.here hx rfl (hb y d34_33) rfl k))) ?_
    refine Gl.callI X13 hx hZ (y := my21) rfl hown (w186 hw) (w116 hw) (w4 hw) (w117 hw) (desc_ne (by decide)) (rm := ro 1 0 0 13) (b := b13) (argsL := [(.ref r2), (.int 1)]) (rest := [(.ref b13)]) (rmV1 hw b13 r2 n0 A13 F13_value F13_coder Gb13 O13) 1 (by decide) (by decide) (by decide) (by decide) e13 hml.symm pd_16 rfl rfl (Nat.le_of_eq rfl) (hb y d34_35) ?_
    intro v16 T16 L16 X16 hQ16
    obtain ⟨rfl, Nq16, Kq16, Fv16, Fc16⟩ := hQ16
    have N16 := Fr.app N2 Nq16
    have vc17 := vc14.keep Kq16 (fun q => ne_t1_b13 (List.mem_singleton.mp q))
    have vc18 := vc15.keep Kq16 (fun q => ne_r2_b13 (List.mem_singleton.mp q))
    have ec19 := A13.keep Kq16
    have O16 := O13.keep Kq16 (allS Gb13 all0)
    have K16 := K13.trans Kq16 (by intro x hx'; cases List.mem_singleton.mp hx'; exact Or.inr Jb13)
    show Gf p e below _ T16 m 38 #[vr t1, vi 0, vi 1, vr r2, vi 1] [(.ref b13)]
    exact Gl.retR X16 hx hlk hret rfl rfl (hb y d34_38) rfl (⟨_, _, rfl, ec19, Fv16, Or.inr ⟨Fc16, vc18⟩, K16, N16⟩) (by decide) (by decide)
theorem rmO31 {l : Launch} {Z : State} {a0 : Array Value} (hw : HW Z a0) {h0 : Heap} (t1 : Addr) (kB : ClassId) (c0 c1 c2 : Int32) (n0 : Nat) (V1 : Arv Z h0 t1 kB .byte (3 : Int32) [.int (o8 c0), .int (o8 c1), .int (o8 c2)] (.int 0)) (hfb : Z.vm.findClass "[B" = some kB) (hl0 : ¬ (255 : Int32) < c0) (O0 : Old Z n0 h0) : Con l Z my25 bc16 3 (some (.object "java/lang/String")) [] (ro 4 2 12 98) 2 12 #[(.ref t1), (.int 0), (.int 1)] h0 (fun v h L => ∃ x t, v = some (.ref x) ∧ xS Z h x ∧ fV Z h x t ∧ ((fC Z h x 0 ∧ Arv Z h t kB .byte (1 : Int32) [.int (o8 c0)] (.int 0) ∧ (¬ (255 : Int32) < c0)) ∨ (fC Z h x 1 ∧ Arv Z h t kB .byte (2 : Int32) [.int (oh c0), .int (ol c0)] (.int 0))) ∧ Keep h0 h [] ∧ Fr n0 L) := by
  refine Con.intro (plainFor_of_name pn_3) ?_
  intro p e s m below meth c s₁ X0 hx y hml hZ hown hnm hret hlk e0 hs0
  refine gs (fun _ k => castTop (ef_25 m t1 (0 : Int32) (1 : Int32)) k) ?_
  have K0 := Keep.refl h0 []
  show Gf p e below _ s₁ m 0 #[vr t1, vi 0, vi 1] []
  refine gs (fun _ k => XS.iloadN X0.here hx rfl (hb y d16_0) rfl (XS.ifYes X0.here hx rfl (pc0 := 1) (pc' := 7) rfl (hb y d16_1) rfl ((if0 _ _).trans (feq (by decide : ¬ ((1 : Int32) = (0 : Int32)))).2) (by decide) (by decide) k)) ?_
  obtain ⟨T1, h1, X1, e1, E1, A1, D1, -, st1⟩ := newO X0 hx hZ hown (w96 hw) (w3 hw) (w4 hw) e0 (g := (mkF m 7 #[vr t1, vi 0, vi 1] [])) rfl (hb y d16_7) (by decide) (by decide)
  obtain ⟨b1, g1⟩ : ∃ z, z = h0.size := ⟨_, rfl⟩
  rw [← g1] at A1 D1 st1
  refine Gl.of st1 ?_
  have Gb1 : n0 ≤ b1 := Nat.le_trans (O0.1 ▸ O0.2.1) (Nat.le_of_eq g1.symm)
  have Jb1 : h0.size ≤ b1 := Nat.le_trans K0.1 (Nat.le_of_eq g1.symm)
  have ne_t1_b1 : t1 ≠ b1 := Nat.ne_of_lt (Nat.lt_of_lt_of_le V1.lt (Nat.le_of_eq g1.symm))
  have vc2 := V1.ext E1
  have O1 := O0.ext E1
  have K1 := K0.ext E1
  have F1_coder : Fld Z h1 b1 "java/lang/String" "coder" "B" (.int 0) := D1 (Or.inr (w29 hw)) (ty := .byte) (by decide)
  have F1_value : Fld Z h1 b1 "java/lang/String" "value" "[B" .null := D1 (Or.inr (w31 hw)) (ty := (.array .byte)) (by decide)
  show Gf p e below _ T1 m 10 #[vr t1, vi 0, vi 1] [(.ref b1)]
  refine gs (fun _ k => XS.dup X1.here hx rfl (hb y d16_10) rfl rfl (XS.aloadN X1.here hx rfl (hb y d16_11) rfl rfl (XS.iloadN X1.here hx rfl (hb y d16_12) rfl (XS.iloadN X1.here hx rfl (hb y d16_13) rfl (XS.iloadN X1.here hx rfl (hb y d16_14) rfl (XS.iadd X1.here hx rfl (hb y d16_15) rfl k)))))) ?_
  show Gf p e below _ T1 m 16 #[vr t1, vi 0, vi 1] [(.int 1), (.int 0), (.ref t1), (.ref b1), (.ref b1)]
  refine Gl.callCor X1 hx hZ hown (w97 hw) (w98 hw) (w99 hw) (w100 hw) (own_cor hw) vc2 hfb (fr := 0) (to := 1) (cap := 8) rfl (by decide) (by decide) (by decide) (by decide) (by decide) (vs' := [.int (o8 c0)]) rfl (n := 1) rfl (by decide) (W := 2) (rest := [(.ref b1), (.ref b1)]) (by decide) (by decide) (by decide) (by decide) e1 rfl rfl hml.symm rfl (Nat.le_of_eq rfl) (hb y d16_16) ?_
  intro r3 T3 X3 E3 Sz3 Vr3
  have ne_t1_r3 : t1 ≠ r3 := Nat.ne_of_lt (Nat.lt_of_lt_of_le vc2.lt Sz3)
  have ne_b1_r3 : b1 ≠ r3 := Nat.ne_of_lt (Nat.lt_of_lt_of_le A1.lt Sz3)
  have Gr3 : n0 ≤ r3 := Nat.le_trans (O1.1 ▸ O1.2.1) Sz3
  have Jr3 : h0.size ≤ r3 := Nat.le_trans K1.1 Sz3
  have vc4 := vc2.ext E3
  have ec5 := A1.ext E3
  have fc6 := F1_coder.ext E3
  have fc7 := F1_value.ext E3
  have O3 := O1.ext E3
  have K3 := K1.ext E3
  show Gf p e below _ T3 m 19 #[vr t1, vi 0, vi 1] [(.ref r3), (.ref b1), (.ref b1)]
  refine gs (fun _ k => XS.iconst X3.here hx rfl (hb y d16_19) k) ?_
  refine Gl.callI X3 hx hZ (y := my21) rfl hown (w115 hw) (w116 hw) (w4 hw) (w117 hw) (desc_ne (by decide)) (rm := ro 1 0 0 13) (b := b1) (argsL := [(.ref r3), (.int 0)]) (rest := [(.ref b1)]) (rmV0 hw b1 r3 n0 ec5 fc7 fc6 Gb1 O3) 1 (by decide) (by decide) (by decide) (by decide) rfl hml.symm pd_16 rfl rfl (Nat.le_of_eq rfl) (hb y d16_20) ?_
  intro v8 T8 L8 X8 hQ8
  obtain ⟨rfl, Nq8, Kq8, Fv8, Fc8⟩ := hQ8
  have N8 := Fr.app (Fr.nil n0) Nq8
  have vc9 := vc4.keep Kq8 (fun q => ne_t1_b1 (List.mem_singleton.mp q))
  have ec10 := ec5.keep Kq8
  have vc11 := Vr3.keep Kq8 (fun q => ne_b1_r3.symm (List.mem_singleton.mp q))
  have O8 := O3.keep Kq8 (allS Gb1 all0)
  have K8 := K3.trans Kq8 (by intro x hx'; cases List.mem_singleton.mp hx'; exact Or.inr Jb1)
  show Gf p e below _ T8 m 23 #[vr t1, vi 0, vi 1] [(.ref b1)]
  exact Gl.retR X8 hx hlk hret rfl rfl (hb y d16_23) rfl (⟨_, _, rfl, ec10, Fv8, Or.inl ⟨Fc8, vc11, hl0⟩, K8, N8⟩) (by decide) (by decide)
theorem rmS631 {l : Launch} {Z : State} {a0 : Array Value} (hw : HW Z a0) {h0 : Heap} (t1 a2 : Addr) (kB : ClassId) (c0 c1 c2 : Int32) (fm : Value) (n0 : Nat) (V1 : Arv Z h0 t1 kB .byte (6 : Int32) [.int (oh c0), .int (ol c0), .int (oh c1), .int (ol c1), .int (oh c2), .int (ol c2)] (.int 0)) (V2 : Arv Z h0 a2 kB .byte (1 : Int32) [.int (0 : Int32)] (.int 0)) (hne : ¬ t1 = a2) (Ga2 : n0 ≤ a2) (hr0 : rg c0) (hr1 : rg c1) (hr2 : rg c2) (SF : sSF Z fm) (rf : fm.isRef = true) (Sa : sSa Z) (Sh : sSh Z) (Sl : sSl Z) (O0 : Old Z n0 h0) : Con l Z my26 bc22 7 (some .int) [] (ro 3 0 0 44) 0 0 #[(.ref t1), (.int 0), (.ref a2), (.int 0), (.int 1)] h0 (fun v h L => ∃ r vs, v = some (.int r) ∧ Fr n0 L ∧ Keep h0 h [a2] ∧ Arv Z h a2 kB .byte (1 : Int32) vs (.int 0) ∧ ((r = (1 : Int32) ∧ vs = [.int (o8 c0)] ∧ (¬ (255 : Int32) < c0)) ∨ (r = (0 : Int32) ∧ (255 : Int32) < c0))) := by
  refine Con.intro (plainFor_of_name pn_0) ?_
  intro p e s m below meth c s₁ X0 hx y hml hZ hown hnm hret hlk e0 hs0
  refine gs (fun _ k => castTop (ef_26 m t1 (0 : Int32) a2 (0 : Int32) (1 : Int32)) k) ?_
  have K0 := Keep.refl h0 [a2]
  show Gf p e below _ s₁ m 0 #[vr t1, vi 0, vr a2, vi 0, vi 1, vu, vu] []
  refine gs (fun _ k => XS.iloadN X0.here hx rfl (hb y d36_0) rfl (XS.iload X0.here hx rfl (hb y d36_1) rfl (XS.aloadN X0.here hx rfl (hb y d36_3) rfl rfl k))) ?_
  refine Gl.callS0 X0 hx hZ (y := my24) hown (w174 hw) (w175 hw) (w19 hw) (w176 hw) (desc_ne (by decide)) (argsL := [(.int 0), (.int 1), (.ref t1)]) (rest := []) (rmS3 hw t1 (1 : Int32) (3 : Int32) fm n0 (rmX33 hw t1 kB _ V1) (by decide) (by decide) SF rf O0) 0 (by decide) (by decide) e0 hml.symm pd_17 rfl rfl (Nat.le_of_eq rfl) (hb y d36_4) (by decide) (by decide) ?_
  intro v1 T1 X1 e1 hv1
  subst hv1
  show Gf p e below _ T1 m 7 #[vr t1, vi 0, vr a2, vi 0, vi 1, vu, vu] []
  refine gs (fun _ k => XS.iconst X1.here hx rfl (hb y d36_7) (XS.istore X1.here hx rfl (hb y d36_8) rfl (l' := #[vr t1, vi 0, vr a2, vi 0, vi 1, vi 0, vu]) rfl (XS.iload X1.here hx rfl (hb y d36_10) rfl (XS.iload X1.here hx rfl (hb y d36_12) rfl (XS.icmpNo X1.here hx rfl (hb y d36_14) rfl (tlt (by decide : (0 : Int32) < (1 : Int32))).2.1 (XS.aloadN X1.here hx rfl (hb y d36_17) rfl rfl k)))))) ?_
  show Gf p e below _ T1 m 18 #[vr t1, vi 0, vr a2, vi 0, vi 1, vi 0, vu] [(.ref t1)]
  refine gs (fun _ k => XS.iloadN X1.here hx rfl (hb y d36_18) rfl k) ?_
  refine Gl.callS0 X1 hx hZ (y := my5) hown (w151 hw) (w152 hw) (w19 hw) (w153 hw) (desc_ne (by decide)) (argsL := [(.ref t1), (.int 0)]) (rest := []) (rmG30 hw t1 kB c0 c1 c2 n0 V1 hr0 Sa Sh Sl O0) 0 (by decide) (by decide) e1 hml.symm pd_5 rfl rfl (Nat.le_of_eq rfl) (hb y d36_19) (by decide) (by decide) ?_
  intro v2 T2 X2 e2 hv2
  subst hv2
  show Gf p e below _ T2 m 22 #[vr t1, vi 0, vr a2, vi 0, vi 1, vi 0, vu] [(.int c0)]
  refine gs (fun _ k => XS.istore X2.here hx rfl (hb y d36_22) rfl (l' := #[vr t1, vi 0, vr a2, vi 0, vi 1, vi 0, vi c0]) rfl (XS.iload X2.here hx rfl (hb y d36_24) rfl (XS.sipush X2.here hx rfl (hb y d36_26) k))) ?_
  by_cases hc29_3 : (255 : Int32) < c0
  · refine Gl.of (fun _ kq_ => XS.icmpNo X2.here hx rfl (hb y d36_29) rfl (tlt hc29_3).2.2.2 kq_) ?_
    refine gs (fun _ k => XS.iload X2.here hx rfl (hb y d36_32) rfl k) ?_
    exact Gl.retI X2 hx hlk hret (hb y d36_34) e2 (⟨_, _, rfl, (Fr.nil n0), K0, V2, Or.inr (⟨rfl, hc29_3⟩)⟩) (by decide) (by decide)
  · refine Gl.of (fun _ kq_ => XS.icmpYes X2.here hx rfl (pc0 := 29) (pc' := 35) rfl (hb y d36_29) rfl (flt hc29_3).2.2.2 (by decide) (by decide) kq_) ?_
    refine gs (fun _ k => XS.aloadN X2.here hx rfl (hb y d36_35) rfl rfl (XS.iloadN X2.here hx rfl (hb y d36_36) rfl k)) ?_
    show Gf p e below _ T2 m 37 #[vr t1, vi 0, vr a2, vi 0, vi 1, vi 0, vi c0] [(.int 0), (.ref a2)]
    refine gs (fun _ k => XS.iload X2.here hx rfl (hb y d36_37) rfl (XS.i2b X2.here hx rfl (hb y d36_39) rfl k)) ?_
    obtain ⟨zcl4, zAr4, zq4, zS4, zM4, zH4, zG4⟩ := id V2
    obtain ⟨T5, h5, X5, e5, W5, st5⟩ := stB X2 hx hZ e2 zAr4 (j := (0 : Int32)) (inb_of zS4 ⟨by decide, by decide⟩) (g := (mkF m 40 #[vr t1, vi 0, vr a2, vi 0, vi 1, vi 0, vi c0] [(.int (c0.toInt8.toInt32)), (.int 0), (.ref a2)])) rfl rfl (hb y d36_40)
    refine Gl.of st5 ?_
    have V5 : Arv Z h5 a2 kB .byte (1 : Int32) [(.int (nar .byte (c0.toInt8.toInt32)))] (.int 0) := Arv.set zAr4 zq4 zS4 zM4 zH4 zG4 (fits_nar_byte _) W5 0 rfl (Nat.le_of_ble_eq_true rfl)
    have vc6 := V1.other W5 hne
    have N5 := Fr.snoc X5 (Fr.nil n0) Ga2
    have O5 := O0.wr W5 Ga2
    have K5 := K0.wr W5 (Or.inl (List.mem_of_getElem? (i := 0) rfl))
    show Gf p e below _ T5 m 41 #[vr t1, vi 0, vr a2, vi 0, vi 1, vi 0, vi c0] []
    refine gs (fun _ k => XS.iinc X5.here hx rfl (hb y d36_41) rfl (l' := #[vr t1, vi 1, vr a2, vi 0, vi 1, vi 0, vi c0]) rfl (XS.iinc X5.here hx rfl (hb y d36_44) rfl (l' := #[vr t1, vi 1, vr a2, vi 1, vi 1, vi 0, vi c0]) rfl (XS.iinc X5.here hx rfl (hb y d36_47) rfl (l' := #[vr t1, vi 1, vr a2, vi 1, vi 1, vi 1, vi c0]) rfl (XS.goto X5.here hx rfl (pc0 := 50) (pc' := 10) rfl (hb y d36_50) (by decide) (by decide) (XS.iload X5.here hx rfl (hb y d36_10) rfl (XS.iload X5.here hx rfl (hb y d36_12) rfl k)))))) ?_
    show Gf p e below _ T5 m 14 #[vr t1, vi 1, vr a2, vi 1, vi 1, vi 1, vi c0] [(.int 1), (.int 1)]
    refine gs (fun _ k => XS.icmpYes X5.here hx rfl (pc0 := 14) (pc' := 53) rfl (hb y d36_14) rfl (flt (by decide : ¬ ((1 : Int32) < (1 : Int32)))).2.1 (by decide) (by decide) (XS.iload X5.here hx rfl (hb y d36_53) rfl k)) ?_
    exact Gl.retI X5 hx hlk hret (hb y d36_55) e5 (⟨_, _, rfl, N5, K5, V5, Or.inl ⟨rfl, rfl, hc29_3⟩⟩) (by decide) (by decide)
theorem rmS731 {l : Launch} {Z : State} {a0 : Array Value} (hw : HW Z a0) {h0 : Heap} (t1 : Addr) (kB : ClassId) (c0 c1 c2 : Int32) (fm : Value) (n0 : Nat) (hfb : Z.vm.findClass "[B" = some kB) (V1 : Arv Z h0 t1 kB .byte (6 : Int32) [.int (oh c0), .int (ol c0), .int (oh c1), .int (ol c1), .int (oh c2), .int (ol c2)] (.int 0)) (hr0 : rg c0) (hr1 : rg c1) (hr2 : rg c2) (SF : sSF Z fm) (rf : fm.isRef = true) (Sa : sSa Z) (Sh : sSh Z) (Sl : sSl Z) (O0 : Old Z n0 h0) : Con l Z my27 bc20 6 (some (.array .byte)) [] (ro 4 2 12 98) 2 12 #[(.ref t1), (.int 0), (.int 1)] h0 (fun v h L => ∃ r, v = some (.ref r) ∧ ((Arv Z h r kB .byte (1 : Int32) [.int (o8 c0)] (.int 0) ∧ (¬ (255 : Int32) < c0)) ∨ Arv Z h r kB .byte (2 : Int32) [.int (oh c0), .int (ol c0)] (.int 0)) ∧ Keep h0 h [] ∧ Fr n0 L ∧ n0 ≤ r ∧ h0.size ≤ r) := by
  refine Con.intro (plainFor_of_name pn_0) ?_
  intro p e s m below meth c s₁ X0 hx y hml hZ hown hnm hret hlk e0 hs0
  refine gs (fun _ k => castTop (ef_27 m t1 (0 : Int32) (1 : Int32)) k) ?_
  have K0 := Keep.refl h0 []
  show Gf p e below _ s₁ m 0 #[vr t1, vi 0, vi 1, vu, vu, vu] []
  refine gs (fun _ k => XS.iloadN X0.here hx rfl (hb y d35_0) rfl k) ?_
  obtain ⟨T1, h1, k1, X1, e1, E1, A1, Ex1, st1⟩ := newPE (aty := .byte) X0 hx hZ (w21 hw) e0 (g := (mkF m 1 #[vr t1, vi 0, vi 1, vu, vu, vu] [(.int 1)])) rfl (hb y d35_1) rfl (by decide) (cap := 1) (by decide) (by decide) (by decide) (by decide) (ad := "[B") rfl
  have kq1 := own_fbn A1 Ex1 hfb
  rw [kq1] at A1
  obtain ⟨b1, g1⟩ : ∃ z, z = h0.size := ⟨_, rfl⟩
  rw [← g1] at A1 st1
  refine Gl.of st1 ?_
  have Gb1 : n0 ≤ b1 := Nat.le_trans (O0.1 ▸ O0.2.1) (Nat.le_of_eq g1.symm)
  have Jb1 : h0.size ≤ b1 := Nat.le_trans K0.1 (Nat.le_of_eq g1.symm)
  have ne_t1_b1 : t1 ≠ b1 := Nat.ne_of_lt (Nat.lt_of_lt_of_le V1.lt (Nat.le_of_eq g1.symm))
  have vc2 := V1.ext E1
  have O1 := O0.ext E1
  have K1 := K0.ext E1
  have V1 : Arv Z h1 b1 kB .byte (1 : Int32) [(.int 0)] (.int 0) := (Arv.new A1 (by decide)).pad (pad_rep [] (.int 0) 1)
  show Gf p e below _ T1 m 3 #[vr t1, vi 0, vi 1, vu, vu, vu] [(.ref b1)]
  refine gs (fun _ k => XS.astoreN X1.here hx rfl (hb y d35_3) rfl rfl (l' := #[vr t1, vi 0, vi 1, vr b1, vu, vu]) rfl (XS.aloadN X1.here hx rfl (hb y d35_4) rfl rfl (XS.iloadN X1.here hx rfl (hb y d35_5) rfl (XS.aloadN X1.here hx rfl (hb y d35_6) rfl rfl (XS.iconst X1.here hx rfl (hb y d35_7) (XS.iloadN X1.here hx rfl (hb y d35_8) rfl k)))))) ?_
  show Gf p e below _ T1 m 9 #[vr t1, vi 0, vi 1, vr b1, vu, vu] [(.int 1), (.int 0), (.ref b1), (.int 0), (.ref t1)]
  refine Gl.callS X1 hx hZ (y := my26) hown (w171 hw) (w172 hw) (w19 hw) (w173 hw) (desc_ne (by decide)) (rm := ro 3 0 0 44) (argsL := [(.ref t1), (.int 0), (.ref b1), (.int 0), (.int 1)]) (rest := []) (rmS631 hw t1 b1 kB c0 c1 c2 fm n0 vc2 V1 ne_t1_b1 Gb1 hr0 hr1 hr2 SF rf Sa Sh Sl O1) 0 (by decide) (by decide) (by decide) (by decide) e1 hml.symm pd_18 rfl rfl (Nat.le_of_eq rfl) (hb y d35_9) ?_
  intro v3 T3 L3 X3 hQ3
  obtain ⟨z3, vs3, rfl, Nq3, Kq3, Vq3, dj3⟩ := hQ3
  have N3 := Fr.app (Fr.nil n0) Nq3
  have vc4 := vc2.keep Kq3 (fun q => ne_t1_b1 (List.mem_singleton.mp q))
  have O3 := O1.keep Kq3 (allS Gb1 all0)
  have K3 := K1.trans Kq3 (by intro x hx'; cases List.mem_singleton.mp hx'; exact Or.inr Jb1)
  rcases dj3 with ⟨rfl, rfl, le3⟩ | ⟨rfl, hb3⟩
  · show Gf p e below _ T3 m 12 #[vr t1, vi 0, vi 1, vr b1, vu, vu] [(.int 1)]
    refine gs (fun _ k => XS.istore X3.here hx rfl (hb y d35_12) rfl (l' := #[vr t1, vi 0, vi 1, vr b1, vi 1, vu]) rfl (XS.iload X3.here hx rfl (hb y d35_14) rfl (XS.iloadN X3.here hx rfl (hb y d35_16) rfl (XS.icmpYes X3.here hx rfl (pc0 := 17) (pc' := 64) rfl (hb y d35_17) rfl (teq (by decide : (1 : Int32) = (1 : Int32))).1 (by decide) (by decide) (XS.aloadN X3.here hx rfl (hb y d35_64) rfl rfl k))))) ?_
    exact Gl.retR X3 hx hlk hret rfl rfl (hb y d35_65) rfl (⟨_, rfl, Or.inl ⟨Vq3, le3⟩, K3, N3, Gb1, Jb1⟩) (by decide) (by decide)
  · show Gf p e below _ T3 m 12 #[vr t1, vi 0, vi 1, vr b1, vu, vu] [(.int 0)]
    refine gs (fun _ k => XS.istore X3.here hx rfl (hb y d35_12) rfl (l' := #[vr t1, vi 0, vi 1, vr b1, vi 0, vu]) rfl (XS.iload X3.here hx rfl (hb y d35_14) rfl (XS.iloadN X3.here hx rfl (hb y d35_16) rfl (XS.icmpNo X3.here hx rfl (hb y d35_17) rfl (feq (by decide : ¬ ((0 : Int32) = (1 : Int32)))).1 (XS.aloadN X3.here hx rfl (hb y d35_20) rfl rfl (XS.iloadN X3.here hx rfl (hb y d35_21) rfl k)))))) ?_
    show Gf p e below _ T3 m 22 #[vr t1, vi 0, vi 1, vr b1, vi 0, vu] [(.int 0), (.ref t1)]
    refine gs (fun _ k => XS.iconst X3.here hx rfl (hb y d35_22) (XS.ishl X3.here hx rfl (hb y d35_23) rfl k)) ?_
    show Gf p e below _ T3 m 24 #[vr t1, vi 0, vi 1, vr b1, vi 0, vu] [(.int 0), (.ref t1)]
    refine gs (fun _ k => XS.iloadN X3.here hx rfl (hb y d35_24) rfl (XS.iloadN X3.here hx rfl (hb y d35_25) rfl (XS.iadd X3.here hx rfl (hb y d35_26) rfl k))) ?_
    show Gf p e below _ T3 m 27 #[vr t1, vi 0, vi 1, vr b1, vi 0, vu] [(.int 1), (.int 0), (.ref t1)]
    refine Gl.callS0 X3 hx hZ (y := my2) hown (w141 hw) (w142 hw) (w19 hw) (w143 hw) (desc_ne (by decide)) (argsL := [(.int 1)]) (rest := [(.int 0), (.ref t1)]) (rmL1 hw) 2 (by decide) (by decide) rfl hml.symm pd_0 rfl rfl (Nat.le_of_eq rfl) (hb y d35_27) (by decide) (by decide) ?_
    intro v5 T5 X5 e5 hv5
    subst hv5
    show Gf p e below _ T5 m 30 #[vr t1, vi 0, vi 1, vr b1, vi 0, vu] [(.int 2), (.int 0), (.ref t1)]
    refine Gl.callCor X5 hx hZ hown (w183 hw) (w98 hw) (w99 hw) (w100 hw) (own_cor hw) vc4 hfb (fr := 0) (to := 2) (cap := 8) rfl (by decide) (by decide) (by decide) (by decide) (by decide) (vs' := [.int (oh c0), .int (ol c0)]) rfl (n := 2) rfl (by decide) (W := 0) (rest := []) (by decide) (by decide) (by decide) (by decide) e5 rfl rfl hml.symm rfl (Nat.le_of_eq rfl) (hb y d35_30) ?_
    intro r6 T6 X6 E6 Sz6 Vr6
    have ne_t1_r6 : t1 ≠ r6 := Nat.ne_of_lt (Nat.lt_of_lt_of_le vc4.lt Sz6)
    have ne_b1_r6 : b1 ≠ r6 := Nat.ne_of_lt (Nat.lt_of_lt_of_le Vq3.lt Sz6)
    have Gr6 : n0 ≤ r6 := Nat.le_trans (O3.1 ▸ O3.2.1) Sz6
    have Jr6 : h0.size ≤ r6 := Nat.le_trans K3.1 Sz6
    have vc7 := vc4.ext E6
    have vc8 := Vq3.ext E6
    have O6 := O3.ext E6
    have K6 := K3.ext E6
    show Gf p e below _ T6 m 33 #[vr t1, vi 0, vi 1, vr b1, vi 0, vu] [(.ref r6)]
    refine gs (fun _ k => XS.astore X6.here hx rfl (hb y d35_33) rfl rfl (l' := #[vr t1, vi 0, vi 1, vr b1, vi 0, vr r6]) rfl (XS.aload X6.here hx rfl (hb y d35_35) rfl rfl (XS.iload X6.here hx rfl (hb y d35_37) rfl k))) ?_
    refine Gl.callS0 X6 hx hZ (y := my5) hown (w151 hw) (w152 hw) (w19 hw) (w153 hw) (desc_ne (by decide)) (argsL := [(.ref r6), (.int 0)]) (rest := []) (rmG10 hw r6 kB c0 n0 Vr6 hr0 Sa Sh Sl O6) 0 (by decide) (by decide) rfl hml.symm pd_5 rfl rfl (Nat.le_of_eq rfl) (hb y d35_39) (by decide) (by decide) ?_
    intro v9 T9 X9 e9 hv9
    subst hv9
    show Gf p e below _ T9 m 42 #[vr t1, vi 0, vi 1, vr b1, vi 0, vr r6] [(.int c0)]
    refine gs (fun _ k => XS.sipush X9.here hx rfl (hb y d35_42) (XS.icmpYes X9.here hx rfl (pc0 := 45) (pc' := 61) rfl (hb y d35_45) rfl (tlt hb3).2.2.1 (by decide) (by decide) (XS.aload X9.here hx rfl (hb y d35_61) rfl rfl k))) ?_
    exact Gl.retR X9 hx hlk hret rfl rfl (hb y d35_63) e9 (⟨_, rfl, Or.inr Vr6, K6, N3, Gr6, Jr6⟩) (by decide) (by decide)
theorem rmS831 {l : Launch} {Z : State} {a0 : Array Value} (hw : HW Z a0) {h0 : Heap} (t1 : Addr) (kB : ClassId) (c0 c1 c2 : Int32) (cz : Int32) (fm : Value) (n0 : Nat) (hfb : Z.vm.findClass "[B" = some kB) (V1 : Arv Z h0 t1 kB .byte (6 : Int32) [.int (oh c0), .int (ol c0), .int (oh c1), .int (ol c1), .int (oh c2), .int (ol c2)] (.int 0)) (hr0 : rg c0) (hr1 : rg c1) (hr2 : rg c2) (SC : sSC Z cz) (hcz : ¬ cz = 0) (SF : sSF Z fm) (rf : fm.isRef = true) (Sa : sSa Z) (Sh : sSh Z) (Sl : sSl Z) (O0 : Old Z n0 h0) : Con l Z my28 bc27 5 (some (.object "java/lang/String")) [] (ro 5 3 20 118) 3 20 #[(.ref t1), (.int 0), (.int 1)] h0 (fun v h L => ∃ x t, v = some (.ref x) ∧ xS Z h x ∧ fV Z h x t ∧ ((fC Z h x 0 ∧ Arv Z h t kB .byte (1 : Int32) [.int (o8 c0)] (.int 0) ∧ (¬ (255 : Int32) < c0)) ∨ (fC Z h x 1 ∧ Arv Z h t kB .byte (2 : Int32) [.int (oh c0), .int (ol c0)] (.int 0))) ∧ Keep h0 h [] ∧ Fr n0 L) := by
  refine Con.intro (plainFor_of_name pn_0) ?_
  intro p e s m below meth c s₁ X0 hx y hml hZ hown hnm hret hlk e0 hs0
  refine gs (fun _ k => castTop (ef_28 m t1 (0 : Int32) (1 : Int32)) k) ?_
  have K0 := Keep.refl h0 []
  show Gf p e below _ s₁ m 0 #[vr t1, vi 0, vi 1, vu, vu] []
  refine gs (fun _ k => XS.iloadN X0.here hx rfl (hb y d34_0) rfl (XS.ifYes X0.here hx rfl (pc0 := 1) (pc' := 8) rfl (hb y d34_1) rfl ((if0 _ _).trans (feq (by decide : ¬ ((1 : Int32) = (0 : Int32)))).2) (by decide) (by decide) k)) ?_
  obtain ⟨T1, X1, e1, st1⟩ := getS2 X0 hx hZ hown (host := "") (Or.inl (w167 hw)) Via.refl e0 (SC.ext O0.2) (g := (mkF m 8 #[vr t1, vi 0, vi 1, vu, vu] [])) rfl (hb y d34_8)
  refine Gl.of st1 ?_
  show Gf p e below _ T1 m 11 #[vr t1, vi 0, vi 1, vu, vu] [(.int cz)]
  refine gs (fun _ k => XS.ifNo X1.here hx rfl (hb y d34_11) rfl ((if0 _ _).trans (feq hcz).1) (XS.aloadN X1.here hx rfl (hb y d34_14) rfl rfl (XS.iloadN X1.here hx rfl (hb y d34_15) rfl (XS.iloadN X1.here hx rfl (hb y d34_16) rfl k)))) ?_
  refine Gl.callS X1 hx hZ (y := my27) hown (w168 hw) (w169 hw) (w19 hw) (w170 hw) (desc_ne (by decide)) (rm := ro 4 2 12 98) (argsL := [(.ref t1), (.int 0), (.int 1)]) (rest := []) (rmS731 hw t1 kB c0 c1 c2 fm n0 hfb V1 hr0 hr1 hr2 SF rf Sa Sh Sl O0) 0 (by decide) (by decide) (by decide) (by decide) e1 hml.symm pd_19 rfl rfl (Nat.le_of_eq rfl) (hb y d34_17) ?_
  intro v2 T2 L2 X2 hQ2
  obtain ⟨r2, rfl, dj2, Kq2, Nq2, Gr2, H2⟩ := hQ2
  have N2 := Fr.app (Fr.nil n0) Nq2
  have ne_t1_r2 : t1 ≠ r2 := Nat.ne_of_lt (Nat.lt_of_lt_of_le V1.lt H2)
  have Jr2 : h0.size ≤ r2 := Nat.le_trans K0.1 H2
  have vc3 := V1.keep Kq2 (by simp)
  have O2 := O0.keep Kq2 all0
  have K2 := K0.trans Kq2 (by intro x hx'; exact nomatch hx')
  rcases dj2 with ⟨Vq2, le2⟩ | Vq2
  · show Gf p e below _ T2 m 20 #[vr t1, vi 0, vi 1, vu, vu] [(.ref r2)]
    refine gs (fun _ k => XS.astoreN X2.here hx rfl (hb y d34_20) rfl rfl (l' := #[vr t1, vi 0, vi 1, vr r2, vu]) rfl (XS.aloadN X2.here hx rfl (hb y d34_21) rfl rfl (XS.iloadN X2.here hx rfl (hb y d34_22) rfl k))) ?_
    refine Gl.callS0 X2 hx hZ (y := my8) hown (w184 hw) (w26 hw) (w19 hw) (w27 hw) (desc_ne (by decide)) (argsL := [(.ref r2), (.int 1)]) (rest := []) (rmZ10 hw r2 kB _ Vq2) 0 (by decide) (by decide) rfl hml.symm pd_6 rfl rfl (Nat.le_of_eq rfl) (hb y d34_23) (by decide) (by decide) ?_
    intro v4 T4 X4 e4 hv4
    subst hv4
    show Gf p e below _ T4 m 26 #[vr t1, vi 0, vi 1, vr r2, vu] [(.int 0)]
    refine gs (fun _ k => XS.istore X4.here hx rfl (hb y d34_26) rfl (l' := #[vr t1, vi 0, vi 1, vr r2, vi 0]) rfl k) ?_
    obtain ⟨T5, h5, X5, e5, E5, A5, D5, -, st5⟩ := newO X4 hx hZ hown (w185 hw) (w3 hw) (w4 hw) e4 (g := (mkF m 28 #[vr t1, vi 0, vi 1, vr r2, vi 0] [])) rfl (hb y d34_28) (by decide) (by decide)
    obtain ⟨b5, g5⟩ : ∃ z, z = T2.heap.size := ⟨_, rfl⟩
    rw [← g5] at A5 D5 st5
    refine Gl.of st5 ?_
    have Gb5 : n0 ≤ b5 := Nat.le_trans (O2.1 ▸ O2.2.1) (Nat.le_of_eq g5.symm)
    have Jb5 : h0.size ≤ b5 := Nat.le_trans K2.1 (Nat.le_of_eq g5.symm)
    have ne_t1_b5 : t1 ≠ b5 := Nat.ne_of_lt (Nat.lt_of_lt_of_le vc3.lt (Nat.le_of_eq g5.symm))
    have ne_r2_b5 : r2 ≠ b5 := Nat.ne_of_lt (Nat.lt_of_lt_of_le Vq2.lt (Nat.le_of_eq g5.symm))
    have vc6 := vc3.ext E5
    have vc7 := Vq2.ext E5
    have O5 := O2.ext E5
    have K5 := K2.ext E5
    have F5_coder : Fld Z h5 b5 "java/lang/String" "coder" "B" (.int 0) := D5 (Or.inr (w29 hw)) (ty := .byte) (by decide)
    have F5_value : Fld Z h5 b5 "java/lang/String" "value" "[B" .null := D5 (Or.inr (w31 hw)) (ty := (.array .byte)) (by decide)
    show Gf p e below _ T5 m 31 #[vr t1, vi 0, vi 1, vr r2, vi 0] [(.ref b5)]
    refine gs (fun _ k => XS.dup X5.here hx rfl (hb y d34_31) rfl rfl (XS.aloadN X5.here hx rfl (hb y d34_32) rfl rfl (XS.iload X5.here hx rfl (hb y d34_33) rfl k))) ?_
    refine Gl.callI X5 hx hZ (y := my21) rfl hown (w186 hw) (w116 hw) (w4 hw) (w117 hw) (desc_ne (by decide)) (rm := ro 1 0 0 13) (b := b5) (argsL := [(.ref r2), (.int 0)]) (rest := [(.ref b5)]) (rmV0 hw b5 r2 n0 A5 F5_value F5_coder Gb5 O5) 1 (by decide) (by decide) (by decide) (by decide) e5 hml.symm pd_16 rfl rfl (Nat.le_of_eq rfl) (hb y d34_35) ?_
    intro v8 T8 L8 X8 hQ8
    obtain ⟨rfl, Nq8, Kq8, Fv8, Fc8⟩ := hQ8
    have N8 := Fr.app N2 Nq8
    have vc9 := vc6.keep Kq8 (fun q => ne_t1_b5 (List.mem_singleton.mp q))
    have vc10 := vc7.keep Kq8 (fun q => ne_r2_b5 (List.mem_singleton.mp q))
    have ec11 := A5.keep Kq8
    have O8 := O5.keep Kq8 (allS Gb5 all0)
    have K8 := K5.trans Kq8 (by intro x hx'; cases List.mem_singleton.mp hx'; exact Or.inr Jb5)
    show Gf p e below _ T8 m 38 #[vr t1, vi 0, vi 1, vr r2, vi 0] [(.ref b5)]
    exact Gl.retR X8 hx hlk hret rfl rfl (hb y d34_38) rfl (⟨_, _, rfl, ec11, Fv8, Or.inl ⟨Fc8, vc10, le2⟩, K8, N8⟩) (by decide) (by decide)
  · show Gf p e below _ T2 m 20 #[vr t1, vi 0, vi 1, vu, vu] [(.ref r2)]
    refine gs (fun _ k => XS.astoreN X2.here hx rfl (hb y d34_20) rfl rfl (l' := #[vr t1, vi 0, vi 1, vr r2, vu]) rfl (XS.aloadN X2.here hx rfl (hb y d34_21) rfl rfl (XS.iloadN X2.here hx rfl (hb y d34_22) rfl k))) ?_
    refine Gl.callS0 X2 hx hZ (y := my8) hown (w184 hw) (w26 hw) (w19 hw) (w27 hw) (desc_ne (by decide)) (argsL := [(.ref r2), (.int 1)]) (rest := []) (rmZ11 hw r2 kB _ Vq2) 0 (by decide) (by decide) rfl hml.symm pd_6 rfl rfl (Nat.le_of_eq rfl) (hb y d34_23) (by decide) (by decide) ?_
    intro v12 T12 X12 e12 hv12
    subst hv12
    show Gf p e below _ T12 m 26 #[vr t1, vi 0, vi 1, vr r2, vu] [(.int 1)]
    refine gs (fun _ k => XS.istore X12.here hx rfl (hb y d34_26) rfl (l' := #[vr t1, vi 0, vi 1, vr r2, vi 1]) rfl k) ?_
    obtain ⟨T13, h13, X13, e13, E13, A13, D13, -, st13⟩ := newO X12 hx hZ hown (w185 hw) (w3 hw) (w4 hw) e12 (g := (mkF m 28 #[vr t1, vi 0, vi 1, vr r2, vi 1] [])) rfl (hb y d34_28) (by decide) (by decide)
    obtain ⟨b13, g13⟩ : ∃ z, z = T2.heap.size := ⟨_, rfl⟩
    rw [← g13] at A13 D13 st13
    refine Gl.of st13 ?_
    have Gb13 : n0 ≤ b13 := Nat.le_trans (O2.1 ▸ O2.2.1) (Nat.le_of_eq g13.symm)
    have Jb13 : h0.size ≤ b13 := Nat.le_trans K2.1 (Nat.le_of_eq g13.symm)
    have ne_t1_b13 : t1 ≠ b13 := Nat.ne_of_lt (Nat.lt_of_lt_of_le vc3.lt (Nat.le_of_eq g13.symm))
    have ne_r2_b13 : r2 ≠ b13 := Nat.ne_of_lt (Nat.lt_of_lt_of_le Vq2.lt (Nat.le_of_eq g13.symm))
    have vc14 := vc3.ext E13
    have vc15 := Vq2.ext E13
    have O13 := O2.ext E13
    have K13 := K2.ext E13
    have F13_coder : Fld Z h13 b13 "java/lang/String" "coder" "B" (.int 0) := D13 (Or.inr (w29 hw)) (ty := .byte) (by decide)
    have F13_value : Fld Z h13 b13 "java/lang/String" "value" "[B" .null := D13 (Or.inr (w31 hw)) (ty := (.array .byte)) (by decide)
    show Gf p e below _ T13 m 31 #[vr t1, vi 0, vi 1, vr r2, vi 1] [(.ref b13)]
    refine gs (fun _ k => XS.dup X13.here hx rfl (hb y d34_31) rfl rfl (XS.aloadN X13.here hx rfl (hb y d34_32) rfl rfl (XS.iload X13.here hx rfl (hb y d34_33) rfl k))) ?_
    refine Gl.callI X13 hx hZ (y := my21) rfl hown (w186 hw) (w116 hw) (w4 hw) (w117 hw) (desc_ne (by decide)) (rm := ro 1 0 0 13) (b := b13) (argsL := [(.ref r2), (.int 1)]) (rest := [(.ref b13)]) (rmV1 hw b13 r2 n0 A13 F13_value F13_coder Gb13 O13) 1 (by decide) (by decide) (by decide) (by decide) e13 hml.symm pd_16 rfl rfl (Nat.le_of_eq rfl) (hb y d34_35) ?_
    intro v16 T16 L16 X16 hQ16
    obtain ⟨rfl, Nq16, Kq16, Fv16, Fc16⟩ := hQ16
    have N16 := Fr.app N2 Nq16
    have vc17 := vc14.keep Kq16 (fun q => ne_t1_b13 (List.mem_singleton.mp q))
    have vc18 := vc15.keep Kq16 (fun q => ne_r2_b13 (List.mem_singleton.mp q))
    have ec19 := A13.keep Kq16
    have O16 := O13.keep Kq16 (allS Gb13 all0)
    have K16 := K13.trans Kq16 (by intro x hx'; cases List.mem_singleton.mp hx'; exact Or.inr Jb13)
    show Gf p e below _ T16 m 38 #[vr t1, vi 0, vi 1, vr r2, vi 1] [(.ref b13)]
    exact Gl.retR X16 hx hlk hret rfl rfl (hb y d34_38) rfl (⟨_, _, rfl, ec19, Fv16, Or.inr ⟨Fc16, vc18⟩, K16, N16⟩) (by decide) (by decide)
theorem rmO32 {l : Launch} {Z : State} {a0 : Array Value} (hw : HW Z a0) {h0 : Heap} (t1 : Addr) (kB : ClassId) (c0 c1 c2 : Int32) (n0 : Nat) (V1 : Arv Z h0 t1 kB .byte (3 : Int32) [.int (o8 c0), .int (o8 c1), .int (o8 c2)] (.int 0)) (hfb : Z.vm.findClass "[B" = some kB) (hl0 : ¬ (255 : Int32) < c0) (hl1 : ¬ (255 : Int32) < c1) (O0 : Old Z n0 h0) : Con l Z my25 bc16 3 (some (.object "java/lang/String")) [] (ro 4 2 12 98) 2 12 #[(.ref t1), (.int 0), (.int 2)] h0 (fun v h L => ∃ x t, v = some (.ref x) ∧ xS Z h x ∧ fV Z h x t ∧ ((fC Z h x 0 ∧ Arv Z h t kB .byte (2 : Int32) [.int (o8 c0), .int (o8 c1)] (.int 0) ∧ (¬ (255 : Int32) < c0 ∧ ¬ (255 : Int32) < c1)) ∨ (fC Z h x 1 ∧ Arv Z h t kB .byte (4 : Int32) [.int (oh c0), .int (ol c0), .int (oh c1), .int (ol c1)] (.int 0))) ∧ Keep h0 h [] ∧ Fr n0 L) := by
  refine Con.intro (plainFor_of_name pn_3) ?_
  intro p e s m below meth c s₁ X0 hx y hml hZ hown hnm hret hlk e0 hs0
  refine gs (fun _ k => castTop (ef_25 m t1 (0 : Int32) (2 : Int32)) k) ?_
  have K0 := Keep.refl h0 []
  show Gf p e below _ s₁ m 0 #[vr t1, vi 0, vi 2] []
  refine gs (fun _ k => XS.iloadN X0.here hx rfl (hb y d16_0) rfl (XS.ifYes X0.here hx rfl (pc0 := 1) (pc' := 7) rfl (hb y d16_1) rfl ((if0 _ _).trans (feq (by decide : ¬ ((2 : Int32) = (0 : Int32)))).2) (by decide) (by decide) k)) ?_
  obtain ⟨T1, h1, X1, e1, E1, A1, D1, -, st1⟩ := newO X0 hx hZ hown (w96 hw) (w3 hw) (w4 hw) e0 (g := (mkF m 7 #[vr t1, vi 0, vi 2] [])) rfl (hb y d16_7) (by decide) (by decide)
  obtain ⟨b1, g1⟩ : ∃ z, z = h0.size := ⟨_, rfl⟩
  rw [← g1] at A1 D1 st1
  refine Gl.of st1 ?_
  have Gb1 : n0 ≤ b1 := Nat.le_trans (O0.1 ▸ O0.2.1) (Nat.le_of_eq g1.symm)
  have Jb1 : h0.size ≤ b1 := Nat.le_trans K0.1 (Nat.le_of_eq g1.symm)
  have ne_t1_b1 : t1 ≠ b1 := Nat.ne_of_lt (Nat.lt_of_lt_of_le V1.lt (Nat.le_of_eq g1.symm))
  have vc2 := V1.ext E1
  have O1 := O0.ext E1
  have K1 := K0.ext E1
  have F1_coder : Fld Z h1 b1 "java/lang/String" "coder" "B" (.int 0) := D1 (Or.inr (w29 hw)) (ty := .byte) (by decide)
  have F1_value : Fld Z h1 b1 "java/lang/String" "value" "[B" .null := D1 (Or.inr (w31 hw)) (ty := (.array .byte)) (by decide)
  show Gf p e below _ T1 m 10 #[vr t1, vi 0, vi 2] [(.ref b1)]
  refine gs (fun _ k => XS.dup X1.here hx rfl (hb y d16_10) rfl rfl (XS.aloadN X1.here hx rfl (hb y d16_11) rfl rfl (XS.iloadN X1.here hx rfl (hb y d16_12) rfl (XS.iloadN X1.here hx rfl (hb y d16_13) rfl (XS.iloadN X1.here hx rfl (hb y d16_14) rfl (XS.iadd X1.here hx rfl (hb y d16_15) rfl k)))))) ?_
  show Gf p e below _ T1 m 16 #[vr t1, vi 0, vi 2] [(.int 2), (.int 0), (.ref t1), (.ref b1), (.ref b1)]
  refine Gl.callCor X1 hx hZ hown (w97 hw) (w98 hw) (w99 hw) (w100 hw) (own_cor hw) vc2 hfb (fr := 0) (to := 2) (cap := 8) rfl (by decide) (by decide) (by decide) (by decide) (by decide) (vs' := [.int (o8 c0), .int (o8 c1)]) rfl (n := 2) rfl (by decide) (W := 2) (rest := [(.ref b1), (.ref b1)]) (by decide) (by decide) (by decide) (by decide) e1 rfl rfl hml.symm rfl (Nat.le_of_eq rfl) (hb y d16_16) ?_
  intro r3 T3 X3 E3 Sz3 Vr3
  have ne_t1_r3 : t1 ≠ r3 := Nat.ne_of_lt (Nat.lt_of_lt_of_le vc2.lt Sz3)
  have ne_b1_r3 : b1 ≠ r3 := Nat.ne_of_lt (Nat.lt_of_lt_of_le A1.lt Sz3)
  have Gr3 : n0 ≤ r3 := Nat.le_trans (O1.1 ▸ O1.2.1) Sz3
  have Jr3 : h0.size ≤ r3 := Nat.le_trans K1.1 Sz3
  have vc4 := vc2.ext E3
  have ec5 := A1.ext E3
  have fc6 := F1_coder.ext E3
  have fc7 := F1_value.ext E3
  have O3 := O1.ext E3
  have K3 := K1.ext E3
  show Gf p e below _ T3 m 19 #[vr t1, vi 0, vi 2] [(.ref r3), (.ref b1), (.ref b1)]
  refine gs (fun _ k => XS.iconst X3.here hx rfl (hb y d16_19) k) ?_
  refine Gl.callI X3 hx hZ (y := my21) rfl hown (w115 hw) (w116 hw) (w4 hw) (w117 hw) (desc_ne (by decide)) (rm := ro 1 0 0 13) (b := b1) (argsL := [(.ref r3), (.int 0)]) (rest := [(.ref b1)]) (rmV0 hw b1 r3 n0 ec5 fc7 fc6 Gb1 O3) 1 (by decide) (by decide) (by decide) (by decide) rfl hml.symm pd_16 rfl rfl (Nat.le_of_eq rfl) (hb y d16_20) ?_
  intro v8 T8 L8 X8 hQ8
  obtain ⟨rfl, Nq8, Kq8, Fv8, Fc8⟩ := hQ8
  have N8 := Fr.app (Fr.nil n0) Nq8
  have vc9 := vc4.keep Kq8 (fun q => ne_t1_b1 (List.mem_singleton.mp q))
  have ec10 := ec5.keep Kq8
  have vc11 := Vr3.keep Kq8 (fun q => ne_b1_r3.symm (List.mem_singleton.mp q))
  have O8 := O3.keep Kq8 (allS Gb1 all0)
  have K8 := K3.trans Kq8 (by intro x hx'; cases List.mem_singleton.mp hx'; exact Or.inr Jb1)
  show Gf p e below _ T8 m 23 #[vr t1, vi 0, vi 2] [(.ref b1)]
  exact Gl.retR X8 hx hlk hret rfl rfl (hb y d16_23) rfl (⟨_, _, rfl, ec10, Fv8, Or.inl ⟨Fc8, vc11, ⟨hl0, hl1⟩⟩, K8, N8⟩) (by decide) (by decide)
theorem rmS632 {l : Launch} {Z : State} {a0 : Array Value} (hw : HW Z a0) {h0 : Heap} (t1 a2 : Addr) (kB : ClassId) (c0 c1 c2 : Int32) (fm : Value) (n0 : Nat) (V1 : Arv Z h0 t1 kB .byte (6 : Int32) [.int (oh c0), .int (ol c0), .int (oh c1), .int (ol c1), .int (oh c2), .int (ol c2)] (.int 0)) (V2 : Arv Z h0 a2 kB .byte (2 : Int32) [.int (0 : Int32), .int (0 : Int32)] (.int 0)) (hne : ¬ t1 = a2) (Ga2 : n0 ≤ a2) (hr0 : rg c0) (hr1 : rg c1) (hr2 : rg c2) (SF : sSF Z fm) (rf : fm.isRef = true) (Sa : sSa Z) (Sh : sSh Z) (Sl : sSl Z) (O0 : Old Z n0 h0) : Con l Z my26 bc22 7 (some .int) [] (ro 3 0 0 44) 0 0 #[(.ref t1), (.int 0), (.ref a2), (.int 0), (.int 2)] h0 (fun v h L => ∃ r vs, v = some (.int r) ∧ Fr n0 L ∧ Keep h0 h [a2] ∧ Arv Z h a2 kB .byte (2 : Int32) vs (.int 0) ∧ ((r = (2 : Int32) ∧ vs = [.int (o8 c0), .int (o8 c1)] ∧ (¬ (255 : Int32) < c0 ∧ ¬ (255 : Int32) < c1)) ∨ (r = (0 : Int32) ∧ (255 : Int32) < c0) ∨ (r = (1 : Int32) ∧ (255 : Int32) < c1))) := by
  refine Con.intro (plainFor_of_name pn_0) ?_
  intro p e s m below meth c s₁ X0 hx y hml hZ hown hnm hret hlk e0 hs0
  refine gs (fun _ k => castTop (ef_26 m t1 (0 : Int32) a2 (0 : Int32) (2 : Int32)) k) ?_
  have K0 := Keep.refl h0 [a2]
  show Gf p e below _ s₁ m 0 #[vr t1, vi 0, vr a2, vi 0, vi 2, vu, vu] []
  refine gs (fun _ k => XS.iloadN X0.here hx rfl (hb y d36_0) rfl (XS.iload X0.here hx rfl (hb y d36_1) rfl (XS.aloadN X0.here hx rfl (hb y d36_3) rfl rfl k))) ?_
  refine Gl.callS0 X0 hx hZ (y := my24) hown (w174 hw) (w175 hw) (w19 hw) (w176 hw) (desc_ne (by decide)) (argsL := [(.int 0), (.int 2), (.ref t1)]) (rest := []) (rmS3 hw t1 (2 : Int32) (3 : Int32) fm n0 (rmX33 hw t1 kB _ V1) (by decide) (by decide) SF rf O0) 0 (by decide) (by decide) e0 hml.symm pd_17 rfl rfl (Nat.le_of_eq rfl) (hb y d36_4) (by decide) (by decide) ?_
  intro v1 T1 X1 e1 hv1
  subst hv1
  show Gf p e below _ T1 m 7 #[vr t1, vi 0, vr a2, vi 0, vi 2, vu, vu] []
  refine gs (fun _ k => XS.iconst X1.here hx rfl (hb y d36_7) (XS.istore X1.here hx rfl (hb y d36_8) rfl (l' := #[vr t1, vi 0, vr a2, vi 0, vi 2, vi 0, vu]) rfl (XS.iload X1.here hx rfl (hb y d36_10) rfl (XS.iload X1.here hx rfl (hb y d36_12) rfl (XS.icmpNo X1.here hx rfl (hb y d36_14) rfl (tlt (by decide : (0 : Int32) < (2 : Int32))).2.1 (XS.aloadN X1.here hx rfl (hb y d36_17) rfl rfl k)))))) ?_
  show Gf p e below _ T1 m 18 #[vr t1, vi 0, vr a2, vi 0, vi 2, vi 0, vu] [(.ref t1)]
  refine gs (fun _ k => XS.iloadN X1.here hx rfl (hb y d36_18) rfl k) ?_
  refine Gl.callS0 X1 hx hZ (y := my5) hown (w151 hw) (w152 hw) (w19 hw) (w153 hw) (desc_ne (by decide)) (argsL := [(.ref t1), (.int 0)]) (rest := []) (rmG30 hw t1 kB c0 c1 c2 n0 V1 hr0 Sa Sh Sl O0) 0 (by decide) (by decide) e1 hml.symm pd_5 rfl rfl (Nat.le_of_eq rfl) (hb y d36_19) (by decide) (by decide) ?_
  intro v2 T2 X2 e2 hv2
  subst hv2
  show Gf p e below _ T2 m 22 #[vr t1, vi 0, vr a2, vi 0, vi 2, vi 0, vu] [(.int c0)]
  refine gs (fun _ k => XS.istore X2.here hx rfl (hb y d36_22) rfl (l' := #[vr t1, vi 0, vr a2, vi 0, vi 2, vi 0, vi c0]) rfl (XS.iload X2.here hx rfl (hb y d36_24) rfl (XS.sipush X2.here hx rfl (hb y d36_26) k))) ?_
  by_cases hc29_3 : (255 : Int32) < c0
  · refine Gl.of (fun _ kq_ => XS.icmpNo X2.here hx rfl (hb y d36_29) rfl (tlt hc29_3).2.2.2 kq_) ?_
    refine gs (fun _ k => XS.iload X2.here hx rfl (hb y d36_32) rfl k) ?_
    exact Gl.retI X2 hx hlk hret (hb y d36_34) e2 (⟨_, _, rfl, (Fr.nil n0), K0, V2, Or.inr (Or.inl ⟨rfl, hc29_3⟩)⟩) (by decide) (by decide)
  · refine Gl.of (fun _ kq_ => XS.icmpYes X2.here hx rfl (pc0 := 29) (pc' := 35) rfl (hb y d36_29) rfl (flt hc29_3).2.2.2 (by decide) (by decide) kq_) ?_
    refine gs (fun _ k => XS.aloadN X2.here hx rfl (hb y d36_35) rfl rfl (XS.iloadN X2.here hx rfl (hb y d36_36) rfl k)) ?_
    show Gf p e below _ T2 m 37 #[vr t1, vi 0, vr a2, vi 0, vi 2, vi 0, vi c0] [(.int 0), (.ref a2)]
    refine gs (fun _ k => XS.iload X2.here hx rfl (hb y d36_37) rfl (XS.i2b X2.here hx rfl (hb y d36_39) rfl k)) ?_
    obtain ⟨zcl4, zAr4, zq4, zS4, zM4, zH4, zG4⟩ := id V2
    obtain ⟨T5, h5, X5, e5, W5, st5⟩ := stB X2 hx hZ e2 zAr4 (j := (0 : Int32)) (inb_of zS4 ⟨by decide, by decide⟩) (g := (mkF m 40 #[vr t1, vi 0, vr a2, vi 0, vi 2, vi 0, vi c0] [(.int (c0.toInt8.toInt32)), (.int 0), (.ref a2)])) rfl rfl (hb y d36_40)
    refine Gl.of st5 ?_
    have V5 : Arv Z h5 a2 kB .byte (2 : Int32) [(.int (nar .byte (c0.toInt8.toInt32))), (.int 0)] (.int 0) := Arv.set zAr4 zq4 zS4 zM4 zH4 zG4 (fits_nar_byte _) W5 0 rfl (Nat.le_of_ble_eq_true rfl)
    have vc6 := V1.other W5 hne
    have N5 := Fr.snoc X5 (Fr.nil n0) Ga2
    have O5 := O0.wr W5 Ga2
    have K5 := K0.wr W5 (Or.inl (List.mem_of_getElem? (i := 0) rfl))
    show Gf p e below _ T5 m 41 #[vr t1, vi 0, vr a2, vi 0, vi 2, vi 0, vi c0] []
    refine gs (fun _ k => XS.iinc X5.here hx rfl (hb y d36_41) rfl (l' := #[vr t1, vi 1, vr a2, vi 0, vi 2, vi 0, vi c0]) rfl (XS.iinc X5.here hx rfl (hb y d36_44) rfl (l' := #[vr t1, vi 1, vr a2, vi 1, vi 2, vi 0, vi c0]) rfl (XS.iinc X5.here hx rfl (hb y d36_47) rfl (l' := #[vr t1, vi 1, vr a2, vi 1, vi 2, vi 1, vi c0]) rfl (XS.goto X5.here hx rfl (pc0 := 50) (pc' := 10) rfl (hb y d36_50) (by decide) (by decide) (XS.iload X5.here hx rfl (hb y d36_10) rfl (XS.iload X5.here hx rfl (hb y d36_12) rfl k)))))) ?_
    show Gf p e below _ T5 m 14 #[vr t1, vi 1, vr a2, vi 1, vi 2, vi 1, vi c0] [(.int 2), (.int 1)]
    refine gs (fun _ k => XS.icmpNo X5.here hx rfl (hb y d36_14) rfl (tlt (by decide : (1 : Int32) < (2 : Int32))).2.1 (XS.aloadN X5.here hx rfl (hb y d36_17) rfl rfl (XS.iloadN X5.here hx rfl (hb y d36_18) rfl k))) ?_
    refine Gl.callS0 X5 hx hZ (y := my5) hown (w151 hw) (w152 hw) (w19 hw) (w153 hw) (desc_ne (by decide)) (argsL := [(.ref t1), (.int 1)]) (rest := []) (rmG31 hw t1 kB c0 c1 c2 n0 vc6 hr1 Sa Sh Sl O5) 0 (by decide) (by decide) e5 hml.symm pd_5 rfl rfl (Nat.le_of_eq rfl) (hb y d36_19) (by decide) (by decide) ?_
    intro v7 T7 X7 e7 hv7
    subst hv7
    show Gf p e below _ T7 m 22 #[vr t1, vi 1, vr a2, vi 1, vi 2, vi 1, vi c0] [(.int c1)]
    refine gs (fun _ k => XS.istore X7.here hx rfl (hb y d36_22) rfl (l' := #[vr t1, vi 1, vr a2, vi 1, vi 2, vi 1, vi c1]) rfl (XS.iload X7.here hx rfl (hb y d36_24) rfl (XS.sipush X7.here hx rfl (hb y d36_26) k))) ?_
    by_cases hc29_8 : (255 : Int32) < c1
    · refine Gl.of (fun _ kq_ => XS.icmpNo X7.here hx rfl (hb y d36_29) rfl (tlt hc29_8).2.2.2 kq_) ?_
      refine gs (fun _ k => XS.iload X7.here hx rfl (hb y d36_32) rfl k) ?_
      exact Gl.retI X7 hx hlk hret (hb y d36_34) e7 (⟨_, _, rfl, N5, K5, V5, Or.inr (Or.inr (⟨rfl, hc29_8⟩))⟩) (by decide) (by decide)
    · refine Gl.of (fun _ kq_ => XS.icmpYes X7.here hx rfl (pc0 := 29) (pc' := 35) rfl (hb y d36_29) rfl (flt hc29_8).2.2.2 (by decide) (by decide) kq_) ?_
      refine gs (fun _ k => XS.aloadN X7.here hx rfl (hb y d36_35) rfl rfl (XS.iloadN X7.here hx rfl (hb y d36_36) rfl k)) ?_
      show Gf p e below _ T7 m 37 #[vr t1, vi 1, vr a2, vi 1, vi 2, vi 1, vi c1] [(.int 1), (.ref a2)]
      refine gs (fun _ k => XS.iload X7.here hx rfl (hb y d36_37) rfl (XS.i2b X7.here hx rfl (hb y d36_39) rfl k)) ?_
      obtain ⟨zcl9, zAr9, zq9, zS9, zM9, zH9, zG9⟩ := id V5
      obtain ⟨T10, h10, X10, e10, W10, st10⟩ := stB X7 hx hZ e7 zAr9 (j := (1 : Int32)) (inb_of zS9 ⟨by decide, by decide⟩) (g := (mkF m 40 #[vr t1, vi 1, vr a2, vi 1, vi 2, vi 1, vi c1] [(.int (c1.toInt8.toInt32)), (.int 1), (.ref a2)])) rfl rfl (hb y d36_40)
      refine Gl.of st10 ?_
      have V10 : Arv Z h10 a2 kB .byte (2 : Int32) [(.int (nar .byte (c0.toInt8.toInt32))), (.int (nar .byte (c1.toInt8.toInt32)))] (.int 0) := Arv.set zAr9 zq9 zS9 zM9 zH9 zG9 (fits_nar_byte _) W10 1 rfl (Nat.le_of_ble_eq_true rfl)
      have vc11 := vc6.other W10 hne
      have N10 := Fr.snoc X10 N5 Ga2
      have O10 := O5.wr W10 Ga2
      have K10 := K5.wr W10 (Or.inl (List.mem_of_getElem? (i := 0) rfl))
      show Gf p e below _ T10 m 41 #[vr t1, vi 1, vr a2, vi 1, vi 2, vi 1, vi c1] []
      refine gs (fun _ k => XS.iinc X10.here hx rfl (hb y d36_41) rfl (l' := #[vr t1, vi 2, vr a2, vi 1, vi 2, vi 1, vi c1]) rfl (XS.iinc X10.here hx rfl (hb y d36_44) rfl (l' := #[vr t1, vi 2, vr a2, vi 2, vi 2, vi 1, vi c1]) rfl (XS.iinc X10.here hx rfl (hb y d36_47) rfl (l' := #[vr t1, vi 2, vr a2, vi 2, vi 2, vi 2, vi c1]) rfl (XS.goto X10.here hx rfl (pc0 := 50) (pc' := 10) rfl (hb y d36_50) (by decide) (by decide) (XS.iload X10.here hx rfl (hb y d36_10) rfl (XS.iload X10.here hx rfl (hb y d36_12) rfl k)))))) ?_
      show Gf p e below _ T10 m 14 #[vr t1, vi 2, vr a2, vi 2, vi 2, vi 2, vi c1] [(.int 2), (.int 2)]
      refine gs (fun _ k => XS.icmpYes X10.here hx rfl (pc0 := 14) (pc' := 53) rfl (hb y d36_14) rfl (flt (by decide : ¬ ((2 : Int32) < (2 : Int32)))).2.1 (by decide) (by decide) (XS.iload X10.here hx rfl (hb y d36_53) rfl k)) ?_
      exact Gl.retI X10 hx hlk hret (hb y d36_55) e10 (⟨_, _, rfl, N10, K10, V10, Or.inl ⟨rfl, rfl, hc29_3, hc29_8⟩⟩) (by decide) (by decide)
theorem rmS732 {l : Launch} {Z : State} {a0 : Array Value} (hw : HW Z a0) {h0 : Heap} (t1 : Addr) (kB : ClassId) (c0 c1 c2 : Int32) (fm : Value) (n0 : Nat) (hfb : Z.vm.findClass "[B" = some kB) (V1 : Arv Z h0 t1 kB .byte (6 : Int32) [.int (oh c0), .int (ol c0), .int (oh c1), .int (ol c1), .int (oh c2), .int (ol c2)] (.int 0)) (hr0 : rg c0) (hr1 : rg c1) (hr2 : rg c2) (SF : sSF Z fm) (rf : fm.isRef = true) (Sa : sSa Z) (Sh : sSh Z) (Sl : sSl Z) (O0 : Old Z n0 h0) : Con l Z my27 bc20 6 (some (.array .byte)) [] (ro 4 2 12 98) 2 12 #[(.ref t1), (.int 0), (.int 2)] h0 (fun v h L => ∃ r, v = some (.ref r) ∧ ((Arv Z h r kB .byte (2 : Int32) [.int (o8 c0), .int (o8 c1)] (.int 0) ∧ (¬ (255 : Int32) < c0 ∧ ¬ (255 : Int32) < c1)) ∨ Arv Z h r kB .byte (4 : Int32) [.int (oh c0), .int (ol c0), .int (oh c1), .int (ol c1)] (.int 0)) ∧ Keep h0 h [] ∧ Fr n0 L ∧ n0 ≤ r ∧ h0.size ≤ r) := by
  refine Con.intro (plainFor_of_name pn_0) ?_
  intro p e s m below meth c s₁ X0 hx y hml hZ hown hnm hret hlk e0 hs0
  refine gs (fun _ k => castTop (ef_27 m t1 (0 : Int32) (2 : Int32)) k) ?_
  have K0 := Keep.refl h0 []
  show Gf p e below _ s₁ m 0 #[vr t1, vi 0, vi 2, vu, vu, vu] []
  refine gs (fun _ k => XS.iloadN X0.here hx rfl (hb y d35_0) rfl k) ?_
  obtain ⟨T1, h1, k1, X1, e1, E1, A1, Ex1, st1⟩ := newPE (aty := .byte) X0 hx hZ (w21 hw) e0 (g := (mkF m 1 #[vr t1, vi 0, vi 2, vu, vu, vu] [(.int 2)])) rfl (hb y d35_1) rfl (by decide) (cap := 2) (by decide) (by decide) (by decide) (by decide) (ad := "[B") rfl
  have kq1 := own_fbn A1 Ex1 hfb
  rw [kq1] at A1
  obtain ⟨b1, g1⟩ : ∃ z, z = h0.size := ⟨_, rfl⟩
  rw [← g1] at A1 st1
  refine Gl.of st1 ?_
  have Gb1 : n0 ≤ b1 := Nat.le_trans (O0.1 ▸ O0.2.1) (Nat.le_of_eq g1.symm)
  have Jb1 : h0.size ≤ b1 := Nat.le_trans K0.1 (Nat.le_of_eq g1.symm)
  have ne_t1_b1 : t1 ≠ b1 := Nat.ne_of_lt (Nat.lt_of_lt_of_le V1.lt (Nat.le_of_eq g1.symm))
  have vc2 := V1.ext E1
  have O1 := O0.ext E1
  have K1 := K0.ext E1
  have V1 : Arv Z h1 b1 kB .byte (2 : Int32) [(.int 0), (.int 0)] (.int 0) := (Arv.new A1 (by decide)).pad (pad_rep [] (.int 0) 2)
  show Gf p e below _ T1 m 3 #[vr t1, vi 0, vi 2, vu, vu, vu] [(.ref b1)]
  refine gs (fun _ k => XS.astoreN X1.here hx rfl (hb y d35_3) rfl rfl (l' := #[vr t1, vi 0, vi 2, vr b1, vu, vu]) rfl (XS.aloadN X1.here hx rfl (hb y d35_4) rfl rfl (XS.iloadN X1.here hx rfl (hb y d35_5) rfl (XS.aloadN X1.here hx rfl (hb y d35_6) rfl rfl (XS.iconst X1.here hx rfl (hb y d35_7) (XS.iloadN X1.here hx rfl (hb y d35_8) rfl k)))))) ?_
  show Gf p e below _ T1 m 9 #[vr t1, vi 0, vi 2, vr b1, vu, vu] [(.int 2), (.int 0), (.ref b1), (.int 0), (.ref t1)]
  refine Gl.callS X1 hx hZ (y := my26) hown (w171 hw) (w172 hw) (w19 hw) (w173 hw) (desc_ne (by decide)) (rm := ro 3 0 0 44) (argsL := [(.ref t1), (.int 0), (.ref b1), (.int 0), (.int 2)]) (rest := []) (rmS632 hw t1 b1 kB c0 c1 c2 fm n0 vc2 V1 ne_t1_b1 Gb1 hr0 hr1 hr2 SF rf Sa Sh Sl O1) 0 (by decide) (by decide) (by decide) (by decide) e1 hml.symm pd_18 rfl rfl (Nat.le_of_eq rfl) (hb y d35_9) ?_
  intro v3 T3 L3 X3 hQ3
  obtain ⟨z3, vs3, rfl, Nq3, Kq3, Vq3, dj3⟩ := hQ3
  have N3 := Fr.app (Fr.nil n0) Nq3
  have vc4 := vc2.keep Kq3 (fun q => ne_t1_b1 (List.mem_singleton.mp q))
  have O3 := O1.keep Kq3 (allS Gb1 all0)
  have K3 := K1.trans Kq3 (by intro x hx'; cases List.mem_singleton.mp hx'; exact Or.inr Jb1)
  rcases dj3 with ⟨rfl, rfl, le3⟩ | ⟨rfl, hb3⟩ | ⟨rfl, hb3⟩
  · show Gf p e below _ T3 m 12 #[vr t1, vi 0, vi 2, vr b1, vu, vu] [(.int 2)]
    refine gs (fun _ k => XS.istore X3.here hx rfl (hb y d35_12) rfl (l' := #[vr t1, vi 0, vi 2, vr b1, vi 2, vu]) rfl (XS.iload X3.here hx rfl (hb y d35_14) rfl (XS.iloadN X3.here hx rfl (hb y d35_16) rfl (XS.icmpYes X3.here hx rfl (pc0 := 17) (pc' := 64) rfl (hb y d35_17) rfl (teq (by decide : (2 : Int32) = (2 : Int32))).1 (by decide) (by decide) (XS.aloadN X3.here hx rfl (hb y d35_64) rfl rfl k))))) ?_
    exact Gl.retR X3 hx hlk hret rfl rfl (hb y d35_65) rfl (⟨_, rfl, Or.inl ⟨Vq3, le3⟩, K3, N3, Gb1, Jb1⟩) (by decide) (by decide)
  · show Gf p e below _ T3 m 12 #[vr t1, vi 0, vi 2, vr b1, vu, vu] [(.int 0)]
    refine gs (fun _ k => XS.istore X3.here hx rfl (hb y d35_12) rfl (l' := #[vr t1, vi 0, vi 2, vr b1, vi 0, vu]) rfl (XS.iload X3.here hx rfl (hb y d35_14) rfl (XS.iloadN X3.here hx rfl (hb y d35_16) rfl (XS.icmpNo X3.here hx rfl (hb y d35_17) rfl (feq (by decide : ¬ ((0 : Int32) = (2 : Int32)))).1 (XS.aloadN X3.here hx rfl (hb y d35_20) rfl rfl (XS.iloadN X3.here hx rfl (hb y d35_21) rfl k)))))) ?_
    show Gf p e below _ T3 m 22 #[vr t1, vi 0, vi 2, vr b1, vi 0, vu] [(.int 0), (.ref t1)]
    refine gs (fun _ k => XS.iconst X3.here hx rfl (hb y d35_22) (XS.ishl X3.here hx rfl (hb y d35_23) rfl k)) ?_
    show Gf p e below _ T3 m 24 #[vr t1, vi 0, vi 2, vr b1, vi 0, vu] [(.int 0), (.ref t1)]
    refine gs (fun _ k => XS.iloadN X3.here hx rfl (hb y d35_24) rfl (XS.iloadN X3.here hx rfl (hb y d35_25) rfl (XS.iadd X3.here hx rfl (hb y d35_26) rfl k))) ?_
    show Gf p e below _ T3 m 27 #[vr t1, vi 0, vi 2, vr b1, vi 0, vu] [(.int 2), (.int 0), (.ref t1)]
    refine Gl.callS0 X3 hx hZ (y := my2) hown (w141 hw) (w142 hw) (w19 hw) (w143 hw) (desc_ne (by decide)) (argsL := [(.int 2)]) (rest := [(.int 0), (.ref t1)]) (rmL2 hw) 2 (by decide) (by decide) rfl hml.symm pd_0 rfl rfl (Nat.le_of_eq rfl) (hb y d35_27) (by decide) (by decide) ?_
    intro v5 T5 X5 e5 hv5
    subst hv5
    show Gf p e below _ T5 m 30 #[vr t1, vi 0, vi 2, vr b1, vi 0, vu] [(.int 4), (.int 0), (.ref t1)]
    refine Gl.callCor X5 hx hZ hown (w183 hw) (w98 hw) (w99 hw) (w100 hw) (own_cor hw) vc4 hfb (fr := 0) (to := 4) (cap := 8) rfl (by decide) (by decide) (by decide) (by decide) (by decide) (vs' := [.int (oh c0), .int (ol c0), .int (oh c1), .int (ol c1)]) rfl (n := 4) rfl (by decide) (W := 0) (rest := []) (by decide) (by decide) (by decide) (by decide) e5 rfl rfl hml.symm rfl (Nat.le_of_eq rfl) (hb y d35_30) ?_
    intro r6 T6 X6 E6 Sz6 Vr6
    have ne_t1_r6 : t1 ≠ r6 := Nat.ne_of_lt (Nat.lt_of_lt_of_le vc4.lt Sz6)
    have ne_b1_r6 : b1 ≠ r6 := Nat.ne_of_lt (Nat.lt_of_lt_of_le Vq3.lt Sz6)
    have Gr6 : n0 ≤ r6 := Nat.le_trans (O3.1 ▸ O3.2.1) Sz6
    have Jr6 : h0.size ≤ r6 := Nat.le_trans K3.1 Sz6
    have vc7 := vc4.ext E6
    have vc8 := Vq3.ext E6
    have O6 := O3.ext E6
    have K6 := K3.ext E6
    show Gf p e below _ T6 m 33 #[vr t1, vi 0, vi 2, vr b1, vi 0, vu] [(.ref r6)]
    refine gs (fun _ k => XS.astore X6.here hx rfl (hb y d35_33) rfl rfl (l' := #[vr t1, vi 0, vi 2, vr b1, vi 0, vr r6]) rfl (XS.aload X6.here hx rfl (hb y d35_35) rfl rfl (XS.iload X6.here hx rfl (hb y d35_37) rfl k))) ?_
    refine Gl.callS0 X6 hx hZ (y := my5) hown (w151 hw) (w152 hw) (w19 hw) (w153 hw) (desc_ne (by decide)) (argsL := [(.ref r6), (.int 0)]) (rest := []) (rmG20 hw r6 kB c0 c1 n0 Vr6 hr0 Sa Sh Sl O6) 0 (by decide) (by decide) rfl hml.symm pd_5 rfl rfl (Nat.le_of_eq rfl) (hb y d35_39) (by decide) (by decide) ?_
    intro v9 T9 X9 e9 hv9
    subst hv9
    show Gf p e below _ T9 m 42 #[vr t1, vi 0, vi 2, vr b1, vi 0, vr r6] [(.int c0)]
    refine gs (fun _ k => XS.sipush X9.here hx rfl (hb y d35_42) (XS.icmpYes X9.here hx rfl (pc0 := 45) (pc' := 61) rfl (hb y d35_45) rfl (tlt hb3).2.2.1 (by decide) (by decide) (XS.aload X9.here hx rfl (hb y d35_61) rfl rfl k))) ?_
    exact Gl.retR X9 hx hlk hret rfl rfl (hb y d35_63) e9 (⟨_, rfl, Or.inr Vr6, K6, N3, Gr6, Jr6⟩) (by decide) (by decide)
  · show Gf p e below _ T3 m 12 #[vr t1, vi 0, vi 2, vr b1, vu, vu] [(.int 1)]
    refine gs (fun _ k => XS.istore X3.here hx rfl (hb y d35_12) rfl (l' := #[vr t1, vi 0, vi 2, vr b1, vi 1, vu]) rfl (XS.iload X3.here hx rfl (hb y d35_14) rfl (XS.iloadN X3.here hx rfl (hb y d35_16) rfl (XS.icmpNo X3.here hx rfl (hb y d35_17) rfl (feq (by decide : ¬ ((1 : Int32) = (2 : Int32)))).1 (XS.aloadN X3.here hx rfl (hb y d35_20) rfl rfl (XS.iloadN X3.here hx rfl (hb y d35_21) rfl k)))))) ?_
    show Gf p e below _ T3 m 22 #[vr t1, vi 0, vi 2, vr b1, vi 1, vu] [(.int 0), (.ref t1)]
    refine gs (fun _ k => XS.iconst X3.here hx rfl (hb y d35_22) (XS.ishl X3.here hx rfl (hb y d35_23) rfl k)) ?_
    show Gf p e below _ T3 m 24 #[vr t1, vi 0, vi 2, vr b1, vi 1, vu] [(.int 0), (.ref t1)]
    refine gs (fun _ k => XS.iloadN X3.here hx rfl (hb y d35_24) rfl (XS.iloadN X3.here hx rfl (hb y d35_25) rfl (XS.iadd X3.here hx rfl (hb y d35_26) rfl k))) ?_
    show Gf p e below _ T3 m 27 #[vr t1, vi 0, vi 2, vr b1, vi 1, vu] [(.int 2), (.int 0), (.ref t1)]
    refine Gl.callS0 X3 hx hZ (y := my2) hown (w141 hw) (w142 hw) (w19 hw) (w143 hw) (desc_ne (by decide)) (argsL := [(.int 2)]) (rest := [(.int 0), (.ref t1)]) (rmL2 hw) 2 (by decide) (by decide) rfl hml.symm pd_0 rfl rfl (Nat.le_of_eq rfl) (hb y d35_27) (by decide) (by decide) ?_
    intro v10 T10 X10 e10 hv10
    subst hv10
    show Gf p e below _ T10 m 30 #[vr t1, vi 0, vi 2, vr b1, vi 1, vu] [(.int 4), (.int 0), (.ref t1)]
    refine Gl.callCor X10 hx hZ hown (w183 hw) (w98 hw) (w99 hw) (w100 hw) (own_cor hw) vc4 hfb (fr := 0) (to := 4) (cap := 8) rfl (by decide) (by decide) (by decide) (by decide) (by decide) (vs' := [.int (oh c0), .int (ol c0), .int (oh c1), .int (ol c1)]) rfl (n := 4) rfl (by decide) (W := 0) (rest := []) (by decide) (by decide) (by decide) (by decide) e10 rfl rfl hml.symm rfl (Nat.le_of_eq rfl) (hb y d35_30) ?_
    intro r11 T11 X11 E11 Sz11 Vr11
    have ne_t1_r11 : t1 ≠ r11 := Nat.ne_of_lt (Nat.lt_of_lt_of_le vc4.lt Sz11)
    have ne_b1_r11 : b1 ≠ r11 := Nat.ne_of_lt (Nat.lt_of_lt_of_le Vq3.lt Sz11)
    have Gr11 : n0 ≤ r11 := Nat.le_trans (O3.1 ▸ O3.2.1) Sz11
    have Jr11 : h0.size ≤ r11 := Nat.le_trans K3.1 Sz11
    have vc12 := vc4.ext E11
    have vc13 := Vq3.ext E11
    have O11 := O3.ext E11
    have K11 := K3.ext E11
    show Gf p e below _ T11 m 33 #[vr t1, vi 0, vi 2, vr b1, vi 1, vu] [(.ref r11)]
    refine gs (fun _ k => XS.astore X11.here hx rfl (hb y d35_33) rfl rfl (l' := #[vr t1, vi 0, vi 2, vr b1, vi 1, vr r11]) rfl (XS.aload X11.here hx rfl (hb y d35_35) rfl rfl (XS.iload X11.here hx rfl (hb y d35_37) rfl k))) ?_
    refine Gl.callS0 X11 hx hZ (y := my5) hown (w151 hw) (w152 hw) (w19 hw) (w153 hw) (desc_ne (by decide)) (argsL := [(.ref r11), (.int 1)]) (rest := []) (rmG21 hw r11 kB c0 c1 n0 Vr11 hr1 Sa Sh Sl O11) 0 (by decide) (by decide) rfl hml.symm pd_5 rfl rfl (Nat.le_of_eq rfl) (hb y d35_39) (by decide) (by decide) ?_
    intro v14 T14 X14 e14 hv14
    subst hv14
    show Gf p e below _ T14 m 42 #[vr t1, vi 0, vi 2, vr b1, vi 1, vr r11] [(.int c1)]
    refine gs (fun _ k => XS.sipush X14.here hx rfl (hb y d35_42) (XS.icmpYes X14.here hx rfl (pc0 := 45) (pc' := 61) rfl (hb y d35_45) rfl (tlt hb3).2.2.1 (by decide) (by decide) (XS.aload X14.here hx rfl (hb y d35_61) rfl rfl k))) ?_
    exact Gl.retR X14 hx hlk hret rfl rfl (hb y d35_63) e14 (⟨_, rfl, Or.inr Vr11, K11, N3, Gr11, Jr11⟩) (by decide) (by decide)
theorem rmS832 {l : Launch} {Z : State} {a0 : Array Value} (hw : HW Z a0) {h0 : Heap} (t1 : Addr) (kB : ClassId) (c0 c1 c2 : Int32) (cz : Int32) (fm : Value) (n0 : Nat) (hfb : Z.vm.findClass "[B" = some kB) (V1 : Arv Z h0 t1 kB .byte (6 : Int32) [.int (oh c0), .int (ol c0), .int (oh c1), .int (ol c1), .int (oh c2), .int (ol c2)] (.int 0)) (hr0 : rg c0) (hr1 : rg c1) (hr2 : rg c2) (SC : sSC Z cz) (hcz : ¬ cz = 0) (SF : sSF Z fm) (rf : fm.isRef = true) (Sa : sSa Z) (Sh : sSh Z) (Sl : sSl Z) (O0 : Old Z n0 h0) : Con l Z my28 bc27 5 (some (.object "java/lang/String")) [] (ro 5 3 20 118) 3 20 #[(.ref t1), (.int 0), (.int 2)] h0 (fun v h L => ∃ x t, v = some (.ref x) ∧ xS Z h x ∧ fV Z h x t ∧ ((fC Z h x 0 ∧ Arv Z h t kB .byte (2 : Int32) [.int (o8 c0), .int (o8 c1)] (.int 0) ∧ (¬ (255 : Int32) < c0 ∧ ¬ (255 : Int32) < c1)) ∨ (fC Z h x 1 ∧ Arv Z h t kB .byte (4 : Int32) [.int (oh c0), .int (ol c0), .int (oh c1), .int (ol c1)] (.int 0))) ∧ Keep h0 h [] ∧ Fr n0 L) := by
  refine Con.intro (plainFor_of_name pn_0) ?_
  intro p e s m below meth c s₁ X0 hx y hml hZ hown hnm hret hlk e0 hs0
  refine gs (fun _ k => castTop (ef_28 m t1 (0 : Int32) (2 : Int32)) k) ?_
  have K0 := Keep.refl h0 []
  show Gf p e below _ s₁ m 0 #[vr t1, vi 0, vi 2, vu, vu] []
  refine gs (fun _ k => XS.iloadN X0.here hx rfl (hb y d34_0) rfl (XS.ifYes X0.here hx rfl (pc0 := 1) (pc' := 8) rfl (hb y d34_1) rfl ((if0 _ _).trans (feq (by decide : ¬ ((2 : Int32) = (0 : Int32)))).2) (by decide) (by decide) k)) ?_
  obtain ⟨T1, X1, e1, st1⟩ := getS2 X0 hx hZ hown (host := "") (Or.inl (w167 hw)) Via.refl e0 (SC.ext O0.2) (g := (mkF m 8 #[vr t1, vi 0, vi 2, vu, vu] [])) rfl (hb y d34_8)
  refine Gl.of st1 ?_
  show Gf p e below _ T1 m 11 #[vr t1, vi 0, vi 2, vu, vu] [(.int cz)]
  refine gs (fun _ k => XS.ifNo X1.here hx rfl (hb y d34_11) rfl ((if0 _ _).trans (feq hcz).1) (XS.aloadN X1.here hx rfl (hb y d34_14) rfl rfl (XS.iloadN X1.here hx rfl (hb y d34_15) rfl (XS.iloadN X1.here hx rfl (hb y d34_16) rfl k)))) ?_
  refine Gl.callS X1 hx hZ (y := my27) hown (w168 hw) (w169 hw) (w19 hw) (w170 hw) (desc_ne (by decide)) (rm := ro 4 2 12 98) (argsL := [(.ref t1), (.int 0), (.int 2)]) (rest := []) (rmS732 hw t1 kB c0 c1 c2 fm n0 hfb V1 hr0 hr1 hr2 SF rf Sa Sh Sl O0) 0 (by decide) (by decide) (by decide) (by decide) e1 hml.symm pd_19 rfl rfl (Nat.le_of_eq rfl) (hb y d34_17) ?_
  intro v2 T2 L2 X2 hQ2
  obtain ⟨r2, rfl, dj2, Kq2, Nq2, Gr2, H2⟩ := hQ2
  have N2 := Fr.app (Fr.nil n0) Nq2
  have ne_t1_r2 : t1 ≠ r2 := Nat.ne_of_lt (Nat.lt_of_lt_of_le V1.lt H2)
  have Jr2 : h0.size ≤ r2 := Nat.le_trans K0.1 H2
  have vc3 := V1.keep Kq2 (by simp)
  have O2 := O0.keep Kq2 all0
  have K2 := K0.trans Kq2 (by intro x hx'; exact nomatch hx')
  rcases dj2 with ⟨Vq2, le2⟩ | Vq2
  · show Gf p e below _ T2 m 20 #[vr t1, vi 0, vi 2, vu, vu] [(.ref r2)]
    refine gs (fun _ k => XS.astoreN X2.here hx rfl (hb y d34_20) rfl rfl (l' := #[vr t1, vi 0, vi 2, vr r2, vu]) rfl (XS.aloadN X2.here hx rfl (hb y d34_21) rfl rfl (XS.iloadN X2.here hx rfl (hb y d34_22) rfl k))) ?_
    refine Gl.callS0 X2 hx hZ (y := my8) hown (w184 hw) (w26 hw) (w19 hw) (w27 hw) (desc_ne (by decide)) (argsL := [(.ref r2), (.int 2)]) (rest := []) (rmZ20 hw r2 kB _ Vq2) 0 (by decide) (by decide) rfl hml.symm pd_6 rfl rfl (Nat.le_of_eq rfl) (hb y d34_23) (by decide) (by decide) ?_
    intro v4 T4 X4 e4 hv4
    subst hv4
    show Gf p e below _ T4 m 26 #[vr t1, vi 0, vi 2, vr r2, vu] [(.int 0)]
    refine gs (fun _ k => XS.istore X4.here hx rfl (hb y d34_26) rfl (l' := #[vr t1, vi 0, vi 2, vr r2, vi 0]) rfl k) ?_
    obtain ⟨T5, h5, X5, e5, E5, A5, D5, -, st5⟩ := newO X4 hx hZ hown (w185 hw) (w3 hw) (w4 hw) e4 (g := (mkF m 28 #[vr t1, vi 0, vi 2, vr r2, vi 0] [])) rfl (hb y d34_28) (by decide) (by decide)
    obtain ⟨b5, g5⟩ : ∃ z, z = T2.heap.size := ⟨_, rfl⟩
    rw [← g5] at A5 D5 st5
    refine Gl.of st5 ?_
    have Gb5 : n0 ≤ b5 := Nat.le_trans (O2.1 ▸ O2.2.1) (Nat.le_of_eq g5.symm)
    have Jb5 : h0.size ≤ b5 := Nat.le_trans K2.1 (Nat.le_of_eq g5.symm)
    have ne_t1_b5 : t1 ≠ b5 := Nat.ne_of_lt (Nat.lt_of_lt_of_le vc3.lt (Nat.le_of_eq g5.symm))
    have ne_r2_b5 : r2 ≠ b5 := Nat.ne_of_lt (Nat.lt_of_lt_of_le Vq2.lt (Nat.le_of_eq g5.symm))
    have vc6 := vc3.ext E5
    have vc7 := Vq2.ext E5
    have O5 := O2.ext E5
    have K5 := K2.ext E5
    have F5_coder : Fld Z h5 b5 "java/lang/String" "coder" "B" (.int 0) := D5 (Or.inr (w29 hw)) (ty := .byte) (by decide)
    have F5_value : Fld Z h5 b5 "java/lang/String" "value" "[B" .null := D5 (Or.inr (w31 hw)) (ty := (.array .byte)) (by decide)
    show Gf p e below _ T5 m 31 #[vr t1, vi 0, vi 2, vr r2, vi 0] [(.ref b5)]
    refine gs (fun _ k => XS.dup X5.here hx rfl (hb y d34_31) rfl rfl (XS.aloadN X5.here hx rfl (hb y d34_32) rfl rfl (XS.iload X5.here hx rfl (hb y d34_33) rfl k))) ?_
    refine Gl.callI X5 hx hZ (y := my21) rfl hown (w186 hw) (w116 hw) (w4 hw) (w117 hw) (desc_ne (by decide)) (rm := ro 1 0 0 13) (b := b5) (argsL := [(.ref r2), (.int 0)]) (rest := [(.ref b5)]) (rmV0 hw b5 r2 n0 A5 F5_value F5_coder Gb5 O5) 1 (by decide) (by decide) (by decide) (by decide) e5 hml.symm pd_16 rfl rfl (Nat.le_of_eq rfl) (hb y d34_35) ?_
    intro v8 T8 L8 X8 hQ8
    obtain ⟨rfl, Nq8, Kq8, Fv8, Fc8⟩ := hQ8
    have N8 := Fr.app N2 Nq8
    have vc9 := vc6.keep Kq8 (fun q => ne_t1_b5 (List.mem_singleton.mp q))
    have vc10 := vc7.keep Kq8 (fun q => ne_r2_b5 (List.mem_singleton.mp q))
    have ec11 := A5.keep Kq8
    have O8 := O5.keep Kq8 (allS Gb5 all0)
    have K8 := K5.trans Kq8 (by intro x hx'; cases List.mem_singleton.mp hx'; exact Or.inr Jb5)
    show Gf p e below _ T8 m 38 #[vr t1, vi 0, vi 2, vr r2, vi 0] [(.ref b5)]
    exact Gl.retR X8 hx hlk hret rfl rfl (hb y d34_38) rfl (⟨_, _, rfl, ec11, Fv8, Or.inl ⟨Fc8, vc10, le2⟩, K8, N8⟩) (by decide) (by decide)
  · show Gf p e below _ T2 m 20 #[vr t1, vi 0, vi 2, vu, vu] [(.ref r2)]
    refine gs (fun _ k => XS.astoreN X2.here hx rfl (hb y d34_20) rfl rfl (l' := #[vr t1, vi 0, vi 2, vr r2, vu]) rfl (XS.aloadN X2.here hx rfl (hb y d34_21) rfl rfl (XS.iloadN X2.here hx rfl (hb y d34_22) rfl k))) ?_
    refine Gl.callS0 X2 hx hZ (y := my8) hown (w184 hw) (w26 hw) (w19 hw) (w27 hw) (desc_ne (by decide)) (argsL := [(.ref r2), (.int 2)]) (rest := []) (rmZ21 hw r2 kB _ Vq2) 0 (by decide) (by decide) rfl hml.symm pd_6 rfl rfl (Nat.le_of_eq rfl) (hb y d34_23) (by decide) (by decide) ?_
    intro v12 T12 X12 e12 hv12
    subst hv12
    show Gf p e below _ T12 m 26 #[vr t1, vi 0, vi 2, vr r2, vu] [(.int 1)]
    refine gs (fun _ k => XS.istore X12.here hx rfl (hb y d34_26) rfl (l' := #[vr t1, vi 0, vi 2, vr r2, vi 1]) rfl k) ?_
    obtain ⟨T13, h13, X13, e13, E13, A13, D13, -, st13⟩ := newO X12 hx hZ hown (w185 hw) (w3 hw) (w4 hw) e12 (g := (mkF m 28 #[vr t1, vi 0, vi 2, vr r2, vi 1] [])) rfl (hb y d34_28) (by decide) (by decide)
    obtain ⟨b13, g13⟩ : ∃ z, z = T2.heap.size := ⟨_, rfl⟩
    rw [← g13] at A13 D13 st13
    refine Gl.of st13 ?_
    have Gb13 : n0 ≤ b13 := Nat.le_trans (O2.1 ▸ O2.2.1) (Nat.le_of_eq g13.symm)
    have Jb13 : h0.size ≤ b13 := Nat.le_trans K2.1 (Nat.le_of_eq g13.symm)
    have ne_t1_b13 : t1 ≠ b13 := Nat.ne_of_lt (Nat.lt_of_lt_of_le vc3.lt (Nat.le_of_eq g13.symm))
    have ne_r2_b13 : r2 ≠ b13 := Nat.ne_of_lt (Nat.lt_of_lt_of_le Vq2.lt (Nat.le_of_eq g13.symm))
    have vc14 := vc3.ext E13
    have vc15 := Vq2.ext E13
    have O13 := O2.ext E13
    have K13 := K2.ext E13
    have F13_coder : Fld Z h13 b13 "java/lang/String" "coder" "B" (.int 0) := D13 (Or.inr (w29 hw)) (ty := .byte) (by decide)
    have F13_value : Fld Z h13 b13 "java/lang/String" "value" "[B" .null := D13 (Or.inr (w31 hw)) (ty := (.array .byte)) (by decide)
    show Gf p e below _ T13 m 31 #[vr t1, vi 0, vi 2, vr r2, vi 1] [(.ref b13)]
    refine gs (fun _ k => XS.dup X13.here hx rfl (hb y d34_31) rfl rfl (XS.aloadN X13.here hx rfl (hb y d34_32) rfl rfl (XS.iload X13.here hx rfl (hb y d34_33) rfl k))) ?_
    refine Gl.callI X13 hx hZ (y := my21) rfl hown (w186 hw) (w116 hw) (w4 hw) (w117 hw) (desc_ne (by decide)) (rm := ro 1 0 0 13) (b := b13) (argsL := [(.ref r2), (.int 1)]) (rest := [(.ref b13)]) (rmV1 hw b13 r2 n0 A13 F13_value F13_coder Gb13 O13) 1 (by decide) (by decide) (by decide) (by decide) e13 hml.symm pd_16 rfl rfl (Nat.le_of_eq rfl) (hb y d34_35) ?_
    intro v16 T16 L16 X16 hQ16
    obtain ⟨rfl, Nq16, Kq16, Fv16, Fc16⟩ := hQ16
    have N16 := Fr.app N2 Nq16
    have vc17 := vc14.keep Kq16 (fun q => ne_t1_b13 (List.mem_singleton.mp q))
    have vc18 := vc15.keep Kq16 (fun q => ne_r2_b13 (List.mem_singleton.mp q))
    have ec19 := A13.keep Kq16
    have O16 := O13.keep Kq16 (allS Gb13 all0)
    have K16 := K13.trans Kq16 (by intro x hx'; cases List.mem_singleton.mp hx'; exact Or.inr Jb13)
    show Gf p e below _ T16 m 38 #[vr t1, vi 0, vi 2, vr r2, vi 1] [(.ref b13)]
    exact Gl.retR X16 hx hlk hret rfl rfl (hb y d34_38) rfl (⟨_, _, rfl, ec19, Fv16, Or.inr ⟨Fc16, vc18⟩, K16, N16⟩) (by decide) (by decide)
theorem rmO41 {l : Launch} {Z : State} {a0 : Array Value} (hw : HW Z a0) {h0 : Heap} (t1 : Addr) (kB : ClassId) (c0 c1 c2 c3 : Int32) (n0 : Nat) (V1 : Arv Z h0 t1 kB .byte (4 : Int32) [.int (o8 c0), .int (o8 c1), .int (o8 c2), .int (o8 c3)] (.int 0)) (hfb : Z.vm.findClass "[B" = some kB) (hl0 : ¬ (255 : Int32) < c0) (O0 : Old Z n0 h0) : Con l Z my25 bc16 3 (some (.object "java/lang/String")) [] (ro 4 2 12 98) 2 12 #[(.ref t1), (.int 0), (.int 1)] h0 (fun v h L => ∃ x t, v = some (.ref x) ∧ xS Z h x ∧ fV Z h x t ∧ ((fC Z h x 0 ∧ Arv Z h t kB .byte (1 : Int32) [.int (o8 c0)] (.int 0) ∧ (¬ (255 : Int32) < c0)) ∨ (fC Z h x 1 ∧ Arv Z h t kB .byte (2 : Int32) [.int (oh c0), .int (ol c0)] (.int 0))) ∧ Keep h0 h [] ∧ Fr n0 L) := by
  refine Con.intro (plainFor_of_name pn_3) ?_
  intro p e s m below meth c s₁ X0 hx y hml hZ hown hnm hret hlk e0 hs0
  refine gs (fun _ k => castTop (ef_25 m t1 (0 : Int32) (1 : Int32)) k) ?_
  have K0 := Keep.refl h0 []
  show Gf p e below _ s₁ m 0 #[vr t1, vi 0, vi 1] []
  refine gs (fun _ k => XS.iloadN X0.here hx rfl (hb y d16_0) rfl (XS.ifYes X0.here hx rfl (pc0 := 1) (pc' := 7) rfl (hb y d16_1) rfl ((if0 _ _).trans (feq (by decide : ¬ ((1 : Int32) = (0 : Int32)))).2) (by decide) (by decide) k)) ?_
  obtain ⟨T1, h1, X1, e1, E1, A1, D1, -, st1⟩ := newO X0 hx hZ hown (w96 hw) (w3 hw) (w4 hw) e0 (g := (mkF m 7 #[vr t1, vi 0, vi 1] [])) rfl (hb y d16_7) (by decide) (by decide)
  obtain ⟨b1, g1⟩ : ∃ z, z = h0.size := ⟨_, rfl⟩
  rw [← g1] at A1 D1 st1
  refine Gl.of st1 ?_
  have Gb1 : n0 ≤ b1 := Nat.le_trans (O0.1 ▸ O0.2.1) (Nat.le_of_eq g1.symm)
  have Jb1 : h0.size ≤ b1 := Nat.le_trans K0.1 (Nat.le_of_eq g1.symm)
  have ne_t1_b1 : t1 ≠ b1 := Nat.ne_of_lt (Nat.lt_of_lt_of_le V1.lt (Nat.le_of_eq g1.symm))
  have vc2 := V1.ext E1
  have O1 := O0.ext E1
  have K1 := K0.ext E1
  have F1_coder : Fld Z h1 b1 "java/lang/String" "coder" "B" (.int 0) := D1 (Or.inr (w29 hw)) (ty := .byte) (by decide)
  have F1_value : Fld Z h1 b1 "java/lang/String" "value" "[B" .null := D1 (Or.inr (w31 hw)) (ty := (.array .byte)) (by decide)
  show Gf p e below _ T1 m 10 #[vr t1, vi 0, vi 1] [(.ref b1)]
  refine gs (fun _ k => XS.dup X1.here hx rfl (hb y d16_10) rfl rfl (XS.aloadN X1.here hx rfl (hb y d16_11) rfl rfl (XS.iloadN X1.here hx rfl (hb y d16_12) rfl (XS.iloadN X1.here hx rfl (hb y d16_13) rfl (XS.iloadN X1.here hx rfl (hb y d16_14) rfl (XS.iadd X1.here hx rfl (hb y d16_15) rfl k)))))) ?_
  show Gf p e below _ T1 m 16 #[vr t1, vi 0, vi 1] [(.int 1), (.int 0), (.ref t1), (.ref b1), (.ref b1)]
  refine Gl.callCor X1 hx hZ hown (w97 hw) (w98 hw) (w99 hw) (w100 hw) (own_cor hw) vc2 hfb (fr := 0) (to := 1) (cap := 8) rfl (by decide) (by decide) (by decide) (by decide) (by decide) (vs' := [.int (o8 c0)]) rfl (n := 1) rfl (by decide) (W := 2) (rest := [(.ref b1), (.ref b1)]) (by decide) (by decide) (by decide) (by decide) e1 rfl rfl hml.symm rfl (Nat.le_of_eq rfl) (hb y d16_16) ?_
  intro r3 T3 X3 E3 Sz3 Vr3
  have ne_t1_r3 : t1 ≠ r3 := Nat.ne_of_lt (Nat.lt_of_lt_of_le vc2.lt Sz3)
  have ne_b1_r3 : b1 ≠ r3 := Nat.ne_of_lt (Nat.lt_of_lt_of_le A1.lt Sz3)
  have Gr3 : n0 ≤ r3 := Nat.le_trans (O1.1 ▸ O1.2.1) Sz3
  have Jr3 : h0.size ≤ r3 := Nat.le_trans K1.1 Sz3
  have vc4 := vc2.ext E3
  have ec5 := A1.ext E3
  have fc6 := F1_coder.ext E3
  have fc7 := F1_value.ext E3
  have O3 := O1.ext E3
  have K3 := K1.ext E3
  show Gf p e below _ T3 m 19 #[vr t1, vi 0, vi 1] [(.ref r3), (.ref b1), (.ref b1)]
  refine gs (fun _ k => XS.iconst X3.here hx rfl (hb y d16_19) k) ?_
  refine Gl.callI X3 hx hZ (y := my21) rfl hown (w115 hw) (w116 hw) (w4 hw) (w117 hw) (desc_ne (by decide)) (rm := ro 1 0 0 13) (b := b1) (argsL := [(.ref r3), (.int 0)]) (rest := [(.ref b1)]) (rmV0 hw b1 r3 n0 ec5 fc7 fc6 Gb1 O3) 1 (by decide) (by decide) (by decide) (by decide) rfl hml.symm pd_16 rfl rfl (Nat.le_of_eq rfl) (hb y d16_20) ?_
  intro v8 T8 L8 X8 hQ8
  obtain ⟨rfl, Nq8, Kq8, Fv8, Fc8⟩ := hQ8
  have N8 := Fr.app (Fr.nil n0) Nq8
  have vc9 := vc4.keep Kq8 (fun q => ne_t1_b1 (List.mem_singleton.mp q))
  have ec10 := ec5.keep Kq8
  have vc11 := Vr3.keep Kq8 (fun q => ne_b1_r3.symm (List.mem_singleton.mp q))
  have O8 := O3.keep Kq8 (allS Gb1 all0)
  have K8 := K3.trans Kq8 (by intro x hx'; cases List.mem_singleton.mp hx'; exact Or.inr Jb1)
  show Gf p e below _ T8 m 23 #[vr t1, vi 0, vi 1] [(.ref b1)]
  exact Gl.retR X8 hx hlk hret rfl rfl (hb y d16_23) rfl (⟨_, _, rfl, ec10, Fv8, Or.inl ⟨Fc8, vc11, hl0⟩, K8, N8⟩) (by decide) (by decide)
theorem rmS641 {l : Launch} {Z : State} {a0 : Array Value} (hw : HW Z a0) {h0 : Heap} (t1 a2 : Addr) (kB : ClassId) (c0 c1 c2 c3 : Int32) (fm : Value) (n0 : Nat) (V1 : Arv Z h0 t1 kB .byte (8 : Int32) [.int (oh c0), .int (ol c0), .int (oh c1), .int (ol c1), .int (oh c2), .int (ol c2), .int (oh c3), .int (ol c3)] (.int 0)) (V2 : Arv Z h0 a2 kB .byte (1 : Int32) [.int (0 : Int32)] (.int 0)) (hne : ¬ t1 = a2) (Ga2 : n0 ≤ a2) (hr0 : rg c0) (hr1 : rg c1) (hr2 : rg c2) (hr3 : rg c3) (SF : sSF Z fm) (rf : fm.isRef = true) (Sa : sSa Z) (Sh : sSh Z) (Sl : sSl Z) (O0 : Old Z n0 h0) : Con l Z my26 bc22 7 (some .int) [] (ro 3 0 0 44) 0 0 #[(.ref t1), (.int 0), (.ref a2), (.int 0), (.int 1)] h0 (fun v h L => ∃ r vs, v = some (.int r) ∧ Fr n0 L ∧ Keep h0 h [a2] ∧ Arv Z h a2 kB .byte (1 : Int32) vs (.int 0) ∧ ((r = (1 : Int32) ∧ vs = [.int (o8 c0)] ∧ (¬ (255 : Int32) < c0)) ∨ (r = (0 : Int32) ∧ (255 : Int32) < c0))) := by
  refine Con.intro (plainFor_of_name pn_0) ?_
  intro p e s m below meth c s₁ X0 hx y hml hZ hown hnm hret hlk e0 hs0
  refine gs (fun _ k => castTop (ef_26 m t1 (0 : Int32) a2 (0 : Int32) (1 : Int32)) k) ?_
  have K0 := Keep.refl h0 [a2]
  show Gf p e below _ s₁ m 0 #[vr t1, vi 0, vr a2, vi 0, vi 1, vu, vu] []
  refine gs (fun _ k => XS.iloadN X0.here hx rfl (hb y d36_0) rfl (XS.iload X0.here hx rfl (hb y d36_1) rfl (XS.aloadN X0.here hx rfl (hb y d36_3) rfl rfl k))) ?_
  refine Gl.callS0 X0 hx hZ (y := my24) hown (w174 hw) (w175 hw) (w19 hw) (w176 hw) (desc_ne (by decide)) (argsL := [(.int 0), (.int 1), (.ref t1)]) (rest := []) (rmS3 hw t1 (1 : Int32) (4 : Int32) fm n0 (rmX34 hw t1 kB _ V1) (by decide) (by decide) SF rf O0) 0 (by decide) (by decide) e0 hml.symm pd_17 rfl rfl (Nat.le_of_eq rfl) (hb y d36_4) (by decide) (by decide) ?_
  intro v1 T1 X1 e1 hv1
  subst hv1
  show Gf p e below _ T1 m 7 #[vr t1, vi 0, vr a2, vi 0, vi 1, vu, vu] []
  refine gs (fun _ k => XS.iconst X1.here hx rfl (hb y d36_7) (XS.istore X1.here hx rfl (hb y d36_8) rfl (l' := #[vr t1, vi 0, vr a2, vi 0, vi 1, vi 0, vu]) rfl (XS.iload X1.here hx rfl (hb y d36_10) rfl (XS.iload X1.here hx rfl (hb y d36_12) rfl (XS.icmpNo X1.here hx rfl (hb y d36_14) rfl (tlt (by decide : (0 : Int32) < (1 : Int32))).2.1 (XS.aloadN X1.here hx rfl (hb y d36_17) rfl rfl k)))))) ?_
  show Gf p e below _ T1 m 18 #[vr t1, vi 0, vr a2, vi 0, vi 1, vi 0, vu] [(.ref t1)]
  refine gs (fun _ k => XS.iloadN X1.here hx rfl (hb y d36_18) rfl k) ?_
  refine Gl.callS0 X1 hx hZ (y := my5) hown (w151 hw) (w152 hw) (w19 hw) (w153 hw) (desc_ne (by decide)) (argsL := [(.ref t1), (.int 0)]) (rest := []) (rmG40 hw t1 kB c0 c1 c2 c3 n0 V1 hr0 Sa Sh Sl O0) 0 (by decide) (by decide) e1 hml.symm pd_5 rfl rfl (Nat.le_of_eq rfl) (hb y d36_19) (by decide) (by decide) ?_
  intro v2 T2 X2 e2 hv2
  subst hv2
  show Gf p e below _ T2 m 22 #[vr t1, vi 0, vr a2, vi 0, vi 1, vi 0, vu] [(.int c0)]
  refine gs (fun _ k => XS.istore X2.here hx rfl (hb y d36_22) rfl (l' := #[vr t1, vi 0, vr a2, vi 0, vi 1, vi 0, vi c0]) rfl (XS.iload X2.here hx rfl (hb y d36_24) rfl (XS.sipush X2.here hx rfl (hb y d36_26) k))) ?_
  by_cases hc29_3 : (255 : Int32) < c0
  · refine Gl.of (fun _ kq_ => XS.icmpNo X2.here hx rfl (hb y d36_29) rfl (tlt hc29_3).2.2.2 kq_) ?_
    refine gs (fun _ k => XS.iload X2.here hx rfl (hb y d36_32) rfl k) ?_
    exact Gl.retI X2 hx hlk hret (hb y d36_34) e2 (⟨_, _, rfl, (Fr.nil n0), K0, V2, Or.inr (⟨rfl, hc29_3⟩)⟩) (by decide) (by decide)
  · refine Gl.of (fun _ kq_ => XS.icmpYes X2.here hx rfl (pc0 := 29) (pc' := 35) rfl (hb y d36_29) rfl (flt hc29_3).2.2.2 (by decide) (by decide) kq_) ?_
    refine gs (fun _ k => XS.aloadN X2.here hx rfl (hb y d36_35) rfl rfl (XS.iloadN X2.here hx rfl (hb y d36_36) rfl k)) ?_
    show Gf p e below _ T2 m 37 #[vr t1, vi 0, vr a2, vi 0, vi 1, vi 0, vi c0] [(.int 0), (.ref a2)]
    refine gs (fun _ k => XS.iload X2.here hx rfl (hb y d36_37) rfl (XS.i2b X2.here hx rfl (hb y d36_39) rfl k)) ?_
    obtain ⟨zcl4, zAr4, zq4, zS4, zM4, zH4, zG4⟩ := id V2
    obtain ⟨T5, h5, X5, e5, W5, st5⟩ := stB X2 hx hZ e2 zAr4 (j := (0 : Int32)) (inb_of zS4 ⟨by decide, by decide⟩) (g := (mkF m 40 #[vr t1, vi 0, vr a2, vi 0, vi 1, vi 0, vi c0] [(.int (c0.toInt8.toInt32)), (.int 0), (.ref a2)])) rfl rfl (hb y d36_40)
    refine Gl.of st5 ?_
    have V5 : Arv Z h5 a2 kB .byte (1 : Int32) [(.int (nar .byte (c0.toInt8.toInt32)))] (.int 0) := Arv.set zAr4 zq4 zS4 zM4 zH4 zG4 (fits_nar_byte _) W5 0 rfl (Nat.le_of_ble_eq_true rfl)
    have vc6 := V1.other W5 hne
    have N5 := Fr.snoc X5 (Fr.nil n0) Ga2
    have O5 := O0.wr W5 Ga2
    have K5 := K0.wr W5 (Or.inl (List.mem_of_getElem? (i := 0) rfl))
    show Gf p e below _ T5 m 41 #[vr t1, vi 0, vr a2, vi 0, vi 1, vi 0, vi c0] []
    refine gs (fun _ k => XS.iinc X5.here hx rfl (hb y d36_41) rfl (l' := #[vr t1, vi 1, vr a2, vi 0, vi 1, vi 0, vi c0]) rfl (XS.iinc X5.here hx rfl (hb y d36_44) rfl (l' := #[vr t1, vi 1, vr a2, vi 1, vi 1, vi 0, vi c0]) rfl (XS.iinc X5.here hx rfl (hb y d36_47) rfl (l' := #[vr t1, vi 1, vr a2, vi 1, vi 1, vi 1, vi c0]) rfl (XS.goto X5.here hx rfl (pc0 := 50) (pc' := 10) rfl (hb y d36_50) (by decide) (by decide) (XS.iload X5.here hx rfl (hb y d36_10) rfl (XS.iload X5.here hx rfl (hb y d36_12) rfl k)))))) ?_
    show Gf p e below _ T5 m 14 #[vr t1, vi 1, vr a2, vi 1, vi 1, vi 1, vi c0] [(.int 1), (.int 1)]
    refine gs (fun _ k => XS.icmpYes X5.here hx rfl (pc0 := 14) (pc' := 53) rfl (hb y d36_14) rfl (flt (by decide : ¬ ((1 : Int32) < (1 : Int32)))).2.1 (by decide) (by decide) (XS.iload X5.here hx rfl (hb y d36_53) rfl k)) ?_
    exact Gl.retI X5 hx hlk hret (hb y d36_55) e5 (⟨_, _, rfl, N5, K5, V5, Or.inl ⟨rfl, rfl, hc29_3⟩⟩) (by decide) (by decide)
theorem rmS741 {l : Launch} {Z : State} {a0 : Array Value} (hw : HW Z a0) {h0 : Heap} (t1 : Addr) (kB : ClassId) (c0 c1 c2 c3 : Int32) (fm : Value) (n0 : Nat) (hfb : Z.vm.findClass "[B" = some kB) (V1 : Arv Z h0 t1 kB .byte (8 : Int32) [.int (oh c0), .int (ol c0), .int (oh c1), .int (ol c1), .int (oh c2), .int (ol c2), .int (oh c3), .int (ol c3)] (.int 0)) (hr0 : rg c0) (hr1 : rg c1) (hr2 : rg c2) (hr3 : rg c3) (SF : sSF Z fm) (rf : fm.isRef = true) (Sa : sSa Z) (Sh : sSh Z) (Sl : sSl Z) (O0 : Old Z n0 h0) : Con l Z my27 bc20 6 (some (.array .byte)) [] (ro 4 2 12 98) 2 12 #[(.ref t1), (.int 0), (.int 1)] h0 (fun v h L => ∃ r, v = some (.ref r) ∧ ((Arv Z h r kB .byte (1 : Int32) [.int (o8 c0)] (.int 0) ∧ (¬ (255 : Int32) < c0)) ∨ Arv Z h r kB .byte (2 : Int32) [.int (oh c0), .int (ol c0)] (.int 0)) ∧ Keep h0 h [] ∧ Fr n0 L ∧ n0 ≤ r ∧ h0.size ≤ r) := by
  refine Con.intro (plainFor_of_name pn_0) ?_
  intro p e s m below meth c s₁ X0 hx y hml hZ hown hnm hret hlk e0 hs0
  refine gs (fun _ k => castTop (ef_27 m t1 (0 : Int32) (1 : Int32)) k) ?_
  have K0 := Keep.refl h0 []
  show Gf p e below _ s₁ m 0 #[vr t1, vi 0, vi 1, vu, vu, vu] []
  refine gs (fun _ k => XS.iloadN X0.here hx rfl (hb y d35_0) rfl k) ?_
  obtain ⟨T1, h1, k1, X1, e1, E1, A1, Ex1, st1⟩ := newPE (aty := .byte) X0 hx hZ (w21 hw) e0 (g := (mkF m 1 #[vr t1, vi 0, vi 1, vu, vu, vu] [(.int 1)])) rfl (hb y d35_1) rfl (by decide) (cap := 1) (by decide) (by decide) (by decide) (by decide) (ad := "[B") rfl
  have kq1 := own_fbn A1 Ex1 hfb
  rw [kq1] at A1
  obtain ⟨b1, g1⟩ : ∃ z, z = h0.size := ⟨_, rfl⟩
  rw [← g1] at A1 st1
  refine Gl.of st1 ?_
  have Gb1 : n0 ≤ b1 := Nat.le_trans (O0.1 ▸ O0.2.1) (Nat.le_of_eq g1.symm)
  have Jb1 : h0.size ≤ b1 := Nat.le_trans K0.1 (Nat.le_of_eq g1.symm)
  have ne_t1_b1 : t1 ≠ b1 := Nat.ne_of_lt (Nat.lt_of_lt_of_le V1.lt (Nat.le_of_eq g1.symm))
  have vc2 := V1.ext E1
  have O1 := O0.ext E1
  have K1 := K0.ext E1
  have V1 : Arv Z h1 b1 kB .byte (1 : Int32) [(.int 0)] (.int 0) := (Arv.new A1 (by decide)).pad (pad_rep [] (.int 0) 1)
  show Gf p e below _ T1 m 3 #[vr t1, vi 0, vi 1, vu, vu, vu] [(.ref b1)]
  refine gs (fun _ k => XS.astoreN X1.here hx rfl (hb y d35_3) rfl rfl (l' := #[vr t1, vi 0, vi 1, vr b1, vu, vu]) rfl (XS.aloadN X1.here hx rfl (hb y d35_4) rfl rfl (XS.iloadN X1.here hx rfl (hb y d35_5) rfl (XS.aloadN X1.here hx rfl (hb y d35_6) rfl rfl (XS.iconst X1.here hx rfl (hb y d35_7) (XS.iloadN X1.here hx rfl (hb y d35_8) rfl k)))))) ?_
  show Gf p e below _ T1 m 9 #[vr t1, vi 0, vi 1, vr b1, vu, vu] [(.int 1), (.int 0), (.ref b1), (.int 0), (.ref t1)]
  refine Gl.callS X1 hx hZ (y := my26) hown (w171 hw) (w172 hw) (w19 hw) (w173 hw) (desc_ne (by decide)) (rm := ro 3 0 0 44) (argsL := [(.ref t1), (.int 0), (.ref b1), (.int 0), (.int 1)]) (rest := []) (rmS641 hw t1 b1 kB c0 c1 c2 c3 fm n0 vc2 V1 ne_t1_b1 Gb1 hr0 hr1 hr2 hr3 SF rf Sa Sh Sl O1) 0 (by decide) (by decide) (by decide) (by decide) e1 hml.symm pd_18 rfl rfl (Nat.le_of_eq rfl) (hb y d35_9) ?_
  intro v3 T3 L3 X3 hQ3
  obtain ⟨z3, vs3, rfl, Nq3, Kq3, Vq3, dj3⟩ := hQ3
  have N3 := Fr.app (Fr.nil n0) Nq3
  have vc4 := vc2.keep Kq3 (fun q => ne_t1_b1 (List.mem_singleton.mp q))
  have O3 := O1.keep Kq3 (allS Gb1 all0)
  have K3 := K1.trans Kq3 (by intro x hx'; cases List.mem_singleton.mp hx'; exact Or.inr Jb1)
  rcases dj3 with ⟨rfl, rfl, le3⟩ | ⟨rfl, hb3⟩
  · show Gf p e below _ T3 m 12 #[vr t1, vi 0, vi 1, vr b1, vu, vu] [(.int 1)]
    refine gs (fun _ k => XS.istore X3.here hx rfl (hb y d35_12) rfl (l' := #[vr t1, vi 0, vi 1, vr b1, vi 1, vu]) rfl (XS.iload X3.here hx rfl (hb y d35_14) rfl (XS.iloadN X3.here hx rfl (hb y d35_16) rfl (XS.icmpYes X3.here hx rfl (pc0 := 17) (pc' := 64) rfl (hb y d35_17) rfl (teq (by decide : (1 : Int32) = (1 : Int32))).1 (by decide) (by decide) (XS.aloadN X3.here hx rfl (hb y d35_64) rfl rfl k))))) ?_
    exact Gl.retR X3 hx hlk hret rfl rfl (hb y d35_65) rfl (⟨_, rfl, Or.inl ⟨Vq3, le3⟩, K3, N3, Gb1, Jb1⟩) (by decide) (by decide)
  · show Gf p e below _ T3 m 12 #[vr t1, vi 0, vi 1, vr b1, vu, vu] [(.int 0)]
    refine gs (fun _ k => XS.istore X3.here hx rfl (hb y d35_12) rfl (l' := #[vr t1, vi 0, vi 1, vr b1, vi 0, vu]) rfl (XS.iload X3.here hx rfl (hb y d35_14) rfl (XS.iloadN X3.here hx rfl (hb y d35_16) rfl (XS.icmpNo X3.here hx rfl (hb y d35_17) rfl (feq (by decide : ¬ ((0 : Int32) = (1 : Int32)))).1 (XS.aloadN X3.here hx rfl (hb y d35_20) rfl rfl (XS.iloadN X3.here hx rfl (hb y d35_21) rfl k)))))) ?_
    show Gf p e below _ T3 m 22 #[vr t1, vi 0, vi 1, vr b1, vi 0, vu] [(.int 0), (.ref t1)]
    refine gs (fun _ k => XS.iconst X3.here hx rfl (hb y d35_22) (XS.ishl X3.here hx rfl (hb y d35_23) rfl k)) ?_
    show Gf p e below _ T3 m 24 #[vr t1, vi 0, vi 1, vr b1, vi 0, vu] [(.int 0), (.ref t1)]
    refine gs (fun _ k => XS.iloadN X3.here hx rfl (hb y d35_24) rfl (XS.iloadN X3.here hx rfl (hb y d35_25) rfl (XS.iadd X3.here hx rfl (hb y d35_26) rfl k))) ?_
    show Gf p e below _ T3 m 27 #[vr t1, vi 0, vi 1, vr b1, vi 0, vu] [(.int 1), (.int 0), (.ref t1)]
    refine Gl.callS0 X3 hx hZ (y := my2) hown (w141 hw) (w142 hw) (w19 hw) (w143 hw) (desc_ne (by decide)) (argsL := [(.int 1)]) (rest := [(.int 0), (.ref t1)]) (rmL1 hw) 2 (by decide) (by decide) rfl hml.symm pd_0 rfl rfl (Nat.le_of_eq rfl) (hb y d35_27) (by decide) (by decide) ?_
    intro v5 T5 X5 e5 hv5
    subst hv5
    show Gf p e below _ T5 m 30 #[vr t1, vi 0, vi 1, vr b1, vi 0, vu] [(.int 2), (.int 0), (.ref t1)]
    refine Gl.callCor X5 hx hZ hown (w183 hw) (w98 hw) (w99 hw) (w100 hw) (own_cor hw) vc4 hfb (fr := 0) (to := 2) (cap := 8) rfl (by decide) (by decide) (by decide) (by decide) (by decide) (vs' := [.int (oh c0), .int (ol c0)]) rfl (n := 2) rfl (by decide) (W := 0) (rest := []) (by decide) (by decide) (by decide) (by decide) e5 rfl rfl hml.symm rfl (Nat.le_of_eq rfl) (hb y d35_30) ?_
    intro r6 T6 X6 E6 Sz6 Vr6
    have ne_t1_r6 : t1 ≠ r6 := Nat.ne_of_lt (Nat.lt_of_lt_of_le vc4.lt Sz6)
    have ne_b1_r6 : b1 ≠ r6 := Nat.ne_of_lt (Nat.lt_of_lt_of_le Vq3.lt Sz6)
    have Gr6 : n0 ≤ r6 := Nat.le_trans (O3.1 ▸ O3.2.1) Sz6
    have Jr6 : h0.size ≤ r6 := Nat.le_trans K3.1 Sz6
    have vc7 := vc4.ext E6
    have vc8 := Vq3.ext E6
    have O6 := O3.ext E6
    have K6 := K3.ext E6
    show Gf p e below _ T6 m 33 #[vr t1, vi 0, vi 1, vr b1, vi 0, vu] [(.ref r6)]
    refine gs (fun _ k => XS.astore X6.here hx rfl (hb y d35_33) rfl rfl (l' := #[vr t1, vi 0, vi 1, vr b1, vi 0, vr r6]) rfl (XS.aload X6.here hx rfl (hb y d35_35) rfl rfl (XS.iload X6.here hx rfl (hb y d35_37) rfl k))) ?_
    refine Gl.callS0 X6 hx hZ (y := my5) hown (w151 hw) (w152 hw) (w19 hw) (w153 hw) (desc_ne (by decide)) (argsL := [(.ref r6), (.int 0)]) (rest := []) (rmG10 hw r6 kB c0 n0 Vr6 hr0 Sa Sh Sl O6) 0 (by decide) (by decide) rfl hml.symm pd_5 rfl rfl (Nat.le_of_eq rfl) (hb y d35_39) (by decide) (by decide) ?_
    intro v9 T9 X9 e9 hv9
    subst hv9
    show Gf p e below _ T9 m 42 #[vr t1, vi 0, vi 1, vr b1, vi 0, vr r6] [(.int c0)]
    refine gs (fun _ k => XS.sipush X9.here hx rfl (hb y d35_42) (XS.icmpYes X9.here hx rfl (pc0 := 45) (pc' := 61) rfl (hb y d35_45) rfl (tlt hb3).2.2.1 (by decide) (by decide) (XS.aload X9.here hx rfl (hb y d35_61) rfl rfl k))) ?_
    exact Gl.retR X9 hx hlk hret rfl rfl (hb y d35_63) e9 (⟨_, rfl, Or.inr Vr6, K6, N3, Gr6, Jr6⟩) (by decide) (by decide)
theorem rmS841 {l : Launch} {Z : State} {a0 : Array Value} (hw : HW Z a0) {h0 : Heap} (t1 : Addr) (kB : ClassId) (c0 c1 c2 c3 : Int32) (cz : Int32) (fm : Value) (n0 : Nat) (hfb : Z.vm.findClass "[B" = some kB) (V1 : Arv Z h0 t1 kB .byte (8 : Int32) [.int (oh c0), .int (ol c0), .int (oh c1), .int (ol c1), .int (oh c2), .int (ol c2), .int (oh c3), .int (ol c3)] (.int 0)) (hr0 : rg c0) (hr1 : rg c1) (hr2 : rg c2) (hr3 : rg c3) (SC : sSC Z cz) (hcz : ¬ cz = 0) (SF : sSF Z fm) (rf : fm.isRef = true) (Sa : sSa Z) (Sh : sSh Z) (Sl : sSl Z) (O0 : Old Z n0 h0) : Con l Z my28 bc27 5 (some (.object "java/lang/String")) [] (ro 5 3 20 118) 3 20 #[(.ref t1), (.int 0), (.int 1)] h0 (fun v h L => ∃ x t, v = some (.ref x) ∧ xS Z h x ∧ fV Z h x t ∧ ((fC Z h x 0 ∧ Arv Z h t kB .byte (1 : Int32) [.int (o8 c0)] (.int 0) ∧ (¬ (255 : Int32) < c0)) ∨ (fC Z h x 1 ∧ Arv Z h t kB .byte (2 : Int32) [.int (oh c0), .int (ol c0)] (.int 0))) ∧ Keep h0 h [] ∧ Fr n0 L) := by
  refine Con.intro (plainFor_of_name pn_0) ?_
  intro p e s m below meth c s₁ X0 hx y hml hZ hown hnm hret hlk e0 hs0
  refine gs (fun _ k => castTop (ef_28 m t1 (0 : Int32) (1 : Int32)) k) ?_
  have K0 := Keep.refl h0 []
  show Gf p e below _ s₁ m 0 #[vr t1, vi 0, vi 1, vu, vu] []
  refine gs (fun _ k => XS.iloadN X0.here hx rfl (hb y d34_0) rfl (XS.ifYes X0.here hx rfl (pc0 := 1) (pc' := 8) rfl (hb y d34_1) rfl ((if0 _ _).trans (feq (by decide : ¬ ((1 : Int32) = (0 : Int32)))).2) (by decide) (by decide) k)) ?_
  obtain ⟨T1, X1, e1, st1⟩ := getS2 X0 hx hZ hown (host := "") (Or.inl (w167 hw)) Via.refl e0 (SC.ext O0.2) (g := (mkF m 8 #[vr t1, vi 0, vi 1, vu, vu] [])) rfl (hb y d34_8)
  refine Gl.of st1 ?_
  show Gf p e below _ T1 m 11 #[vr t1, vi 0, vi 1, vu, vu] [(.int cz)]
  refine gs (fun _ k => XS.ifNo X1.here hx rfl (hb y d34_11) rfl ((if0 _ _).trans (feq hcz).1) (XS.aloadN X1.here hx rfl (hb y d34_14) rfl rfl (XS.iloadN X1.here hx rfl (hb y d34_15) rfl (XS.iloadN X1.here hx rfl (hb y d34_16) rfl k)))) ?_
  refine Gl.callS X1 hx hZ (y := my27) hown (w168 hw) (w169 hw) (w19 hw) (w170 hw) (desc_ne (by decide)) (rm := ro 4 2 12 98) (argsL := [(.ref t1), (.int 0), (.int 1)]) (rest := []) (rmS741 hw t1 kB c0 c1 c2 c3 fm n0 hfb V1 hr0 hr1 hr2 hr3 SF rf Sa Sh Sl O0) 0 (by decide) (by decide) (by decide) (by decide) e1 hml.symm pd_19 rfl rfl (Nat.le_of_eq rfl) (hb y d34_17) ?_
  intro v2 T2 L2 X2 hQ2
  obtain ⟨r2, rfl, dj2, Kq2, Nq2, Gr2, H2⟩ := hQ2
  have N2 := Fr.app (Fr.nil n0) Nq2
  have ne_t1_r2 : t1 ≠ r2 := Nat.ne_of_lt (Nat.lt_of_lt_of_le V1.lt H2)
  have Jr2 : h0.size ≤ r2 := Nat.le_trans K0.1 H2
  have vc3 := V1.keep Kq2 (by simp)
  have O2 := O0.keep Kq2 all0
  have K2 := K0.trans Kq2 (by intro x hx'; exact nomatch hx')
  rcases dj2 with ⟨Vq2, le2⟩ | Vq2
  · show Gf p e below _ T2 m 20 #[vr t1, vi 0, vi 1, vu, vu] [(.ref r2)]
    refine gs (fun _ k => XS.astoreN X2.here hx rfl (hb y d34_20) rfl rfl (l' := #[vr t1, vi 0, vi 1, vr r2, vu]) rfl (XS.aloadN X2.here hx rfl (hb y d34_21) rfl rfl (XS.iloadN X2.here hx rfl (hb y d34_22) rfl k))) ?_
    refine Gl.callS0 X2 hx hZ (y := my8) hown (w184 hw) (w26 hw) (w19 hw) (w27 hw) (desc_ne (by decide)) (argsL := [(.ref r2), (.int 1)]) (rest := []) (rmZ10 hw r2 kB _ Vq2) 0 (by decide) (by decide) rfl hml.symm pd_6 rfl rfl (Nat.le_of_eq rfl) (hb y d34_23) (by decide) (by decide) ?_
    intro v4 T4 X4 e4 hv4
    subst hv4
    show Gf p e below _ T4 m 26 #[vr t1, vi 0, vi 1, vr r2, vu] [(.int 0)]
    refine gs (fun _ k => XS.istore X4.here hx rfl (hb y d34_26) rfl (l' := #[vr t1, vi 0, vi 1, vr r2, vi 0]) rfl k) ?_
    obtain ⟨T5, h5, X5, e5, E5, A5, D5, -, st5⟩ := newO X4 hx hZ hown (w185 hw) (w3 hw) (w4 hw) e4 (g := (mkF m 28 #[vr t1, vi 0, vi 1, vr r2, vi 0] [])) rfl (hb y d34_28) (by decide) (by decide)
    obtain ⟨b5, g5⟩ : ∃ z, z = T2.heap.size := ⟨_, rfl⟩
    rw [← g5] at A5 D5 st5
    refine Gl.of st5 ?_
    have Gb5 : n0 ≤ b5 := Nat.le_trans (O2.1 ▸ O2.2.1) (Nat.le_of_eq g5.symm)
    have Jb5 : h0.size ≤ b5 := Nat.le_trans K2.1 (Nat.le_of_eq g5.symm)
    have ne_t1_b5 : t1 ≠ b5 := Nat.ne_of_lt (Nat.lt_of_lt_of_le vc3.lt (Nat.le_of_eq g5.symm))
    have ne_r2_b5 : r2 ≠ b5 := Nat.ne_of_lt (Nat.lt_of_lt_of_le Vq2.lt (Nat.le_of_eq g5.symm))
    have vc6 := vc3.ext E5
    have vc7 := Vq2.ext E5
    have O5 := O2.ext E5
    have K5 := K2.ext E5
    have F5_coder : Fld Z h5 b5 "java/lang/String" "coder" "B" (.int 0) := D5 (Or.inr (w29 hw)) (ty := .byte) (by decide)
    have F5_value : Fld Z h5 b5 "java/lang/String" "value" "[B" .null := D5 (Or.inr (w31 hw)) (ty := (.array .byte)) (by decide)
    show Gf p e below _ T5 m 31 #[vr t1, vi 0, vi 1, vr r2, vi 0] [(.ref b5)]
    refine gs (fun _ k => XS.dup X5.here hx rfl (hb y d34_31) rfl rfl (XS.aloadN X5.here hx rfl (hb y d34_32) rfl rfl (XS.iload X5.here hx rfl (hb y d34_33) rfl k))) ?_
    refine Gl.callI X5 hx hZ (y := my21) rfl hown (w186 hw) (w116 hw) (w4 hw) (w117 hw) (desc_ne (by decide)) (rm := ro 1 0 0 13) (b := b5) (argsL := [(.ref r2), (.int 0)]) (rest := [(.ref b5)]) (rmV0 hw b5 r2 n0 A5 F5_value F5_coder Gb5 O5) 1 (by decide) (by decide) (by decide) (by decide) e5 hml.symm pd_16 rfl rfl (Nat.le_of_eq rfl) (hb y d34_35) ?_
    intro v8 T8 L8 X8 hQ8
    obtain ⟨rfl, Nq8, Kq8, Fv8, Fc8⟩ := hQ8
    have N8 := Fr.app N2 Nq8
    have vc9 := vc6.keep Kq8 (fun q => ne_t1_b5 (List.mem_singleton.mp q))
    have vc10 := vc7.keep Kq8 (fun q => ne_r2_b5 (List.mem_singleton.mp q))
    have ec11 := A5.keep Kq8
    have O8 := O5.keep Kq8 (allS Gb5 all0)
    have K8 := K5.trans Kq8 (by intro x hx'; cases List.mem_singleton.mp hx'; exact Or.inr Jb5)
    show Gf p e below _ T8 m 38 #[vr t1, vi 0, vi 1, vr r2, vi 0] [(.ref b5)]
    exact Gl.retR X8 hx hlk hret rfl rfl (hb y d34_38) rfl (⟨_, _, rfl, ec11, Fv8, Or.inl ⟨Fc8, vc10, le2⟩, K8, N8⟩) (by decide) (by decide)
  · show Gf p e below _ T2 m 20 #[vr t1, vi 0, vi 1, vu, vu] [(.ref r2)]
    refine gs (fun _ k => XS.astoreN X2.here hx rfl (hb y d34_20) rfl rfl (l' := #[vr t1, vi 0, vi 1, vr r2, vu]) rfl (XS.aloadN X2.here hx rfl (hb y d34_21) rfl rfl (XS.iloadN X2.here hx rfl (hb y d34_22) rfl k))) ?_
    refine Gl.callS0 X2 hx hZ (y := my8) hown (w184 hw) (w26 hw) (w19 hw) (w27 hw) (desc_ne (by decide)) (argsL := [(.ref r2), (.int 1)]) (rest := []) (rmZ11 hw r2 kB _ Vq2) 0 (by decide) (by decide) rfl hml.symm pd_6 rfl rfl (Nat.le_of_eq rfl) (hb y d34_23) (by decide) (by decide) ?_
    intro v12 T12 X12 e12 hv12
    subst hv12
    show Gf p e below _ T12 m 26 #[vr t1, vi 0, vi 1, vr r2, vu] [(.int 1)]
    refine gs (fun _ k => XS.istore X12.here hx rfl (hb y d34_26) rfl (l' := #[vr t1, vi 0, vi 1, vr r2, vi 1]) rfl k) ?_
    obtain ⟨T13, h13, X13, e13, E13, A13, D13, -, st13⟩ := newO X12 hx hZ hown (w185 hw) (w3 hw) (w4 hw) e12 (g := (mkF m 28 #[vr t1, vi 0, vi 1, vr r2, vi 1] [])) rfl (hb y d34_28) (by decide) (by decide)
    obtain ⟨b13, g13⟩ : ∃ z, z = T2.heap.size := ⟨_, rfl⟩
    rw [← g13] at A13 D13 st13
    refine Gl.of st13 ?_
    have Gb13 : n0 ≤ b13 := Nat.le_trans (O2.1 ▸ O2.2.1) (Nat.le_of_eq g13.symm)
    have Jb13 : h0.size ≤ b13 := Nat.le_trans K2.1 (Nat.le_of_eq g13.symm)
    have ne_t1_b13 : t1 ≠ b13 := Nat.ne_of_lt (Nat.lt_of_lt_of_le vc3.lt (Nat.le_of_eq g13.symm))
    have ne_r2_b13 : r2 ≠ b13 := Nat.ne_of_lt (Nat.lt_of_lt_of_le Vq2.lt (Nat.le_of_eq g13.symm))
    have vc14 := vc3.ext E13
    have vc15 := Vq2.ext E13
    have O13 := O2.ext E13
    have K13 := K2.ext E13
    have F13_coder : Fld Z h13 b13 "java/lang/String" "coder" "B" (.int 0) := D13 (Or.inr (w29 hw)) (ty := .byte) (by decide)
    have F13_value : Fld Z h13 b13 "java/lang/String" "value" "[B" .null := D13 (Or.inr (w31 hw)) (ty := (.array .byte)) (by decide)
    show Gf p e below _ T13 m 31 #[vr t1, vi 0, vi 1, vr r2, vi 1] [(.ref b13)]
    refine gs (fun _ k => XS.dup X13.here hx rfl (hb y d34_31) rfl rfl (XS.aloadN X13.here hx rfl (hb y d34_32) rfl rfl (XS.iload X13.here hx rfl (hb y d34_33) rfl k))) ?_
    refine Gl.callI X13 hx hZ (y := my21) rfl hown (w186 hw) (w116 hw) (w4 hw) (w117 hw) (desc_ne (by decide)) (rm := ro 1 0 0 13) (b := b13) (argsL := [(.ref r2), (.int 1)]) (rest := [(.ref b13)]) (rmV1 hw b13 r2 n0 A13 F13_value F13_coder Gb13 O13) 1 (by decide) (by decide) (by decide) (by decide) e13 hml.symm pd_16 rfl rfl (Nat.le_of_eq rfl) (hb y d34_35) ?_
    intro v16 T16 L16 X16 hQ16
    obtain ⟨rfl, Nq16, Kq16, Fv16, Fc16⟩ := hQ16
    have N16 := Fr.app N2 Nq16
    have vc17 := vc14.keep Kq16 (fun q => ne_t1_b13 (List.mem_singleton.mp q))
    have vc18 := vc15.keep Kq16 (fun q => ne_r2_b13 (List.mem_singleton.mp q))
    have ec19 := A13.keep Kq16
    have O16 := O13.keep Kq16 (allS Gb13 all0)
    have K16 := K13.trans Kq16 (by intro x hx'; cases List.mem_singleton.mp hx'; exact Or.inr Jb13)
    show Gf p e below _ T16 m 38 #[vr t1, vi 0, vi 1, vr r2, vi 1] [(.ref b13)]
    exact Gl.retR X16 hx hlk hret rfl rfl (hb y d34_38) rfl (⟨_, _, rfl, ec19, Fv16, Or.inr ⟨Fc16, vc18⟩, K16, N16⟩) (by decide) (by decide)
theorem rmO42 {l : Launch} {Z : State} {a0 : Array Value} (hw : HW Z a0) {h0 : Heap} (t1 : Addr) (kB : ClassId) (c0 c1 c2 c3 : Int32) (n0 : Nat) (V1 : Arv Z h0 t1 kB .byte (4 : Int32) [.int (o8 c0), .int (o8 c1), .int (o8 c2), .int (o8 c3)] (.int 0)) (hfb : Z.vm.findClass "[B" = some kB) (hl0 : ¬ (255 : Int32) < c0) (hl1 : ¬ (255 : Int32) < c1) (O0 : Old Z n0 h0) : Con l Z my25 bc16 3 (some (.object "java/lang/String")) [] (ro 4 2 12 98) 2 12 #[(.ref t1), (.int 0), (.int 2)] h0 (fun v h L => ∃ x t, v = some (.ref x) ∧ xS Z h x ∧ fV Z h x t ∧ ((fC Z h x 0 ∧ Arv Z h t kB .byte (2 : Int32) [.int (o8 c0), .int (o8 c1)] (.int 0) ∧ (¬ (255 : Int32) < c0 ∧ ¬ (255 : Int32) < c1)) ∨ (fC Z h x 1 ∧ Arv Z h t kB .byte (4 : Int32) [.int (oh c0), .int (ol c0), .int (oh c1), .int (ol c1)] (.int 0))) ∧ Keep h0 h [] ∧ Fr n0 L) := by
  refine Con.intro (plainFor_of_name pn_3) ?_
  intro p e s m below meth c s₁ X0 hx y hml hZ hown hnm hret hlk e0 hs0
  refine gs (fun _ k => castTop (ef_25 m t1 (0 : Int32) (2 : Int32)) k) ?_
  have K0 := Keep.refl h0 []
  show Gf p e below _ s₁ m 0 #[vr t1, vi 0, vi 2] []
  refine gs (fun _ k => XS.iloadN X0.here hx rfl (hb y d16_0) rfl (XS.ifYes X0.here hx rfl (pc0 := 1) (pc' := 7) rfl (hb y d16_1) rfl ((if0 _ _).trans (feq (by decide : ¬ ((2 : Int32) = (0 : Int32)))).2) (by decide) (by decide) k)) ?_
  obtain ⟨T1, h1, X1, e1, E1, A1, D1, -, st1⟩ := newO X0 hx hZ hown (w96 hw) (w3 hw) (w4 hw) e0 (g := (mkF m 7 #[vr t1, vi 0, vi 2] [])) rfl (hb y d16_7) (by decide) (by decide)
  obtain ⟨b1, g1⟩ : ∃ z, z = h0.size := ⟨_, rfl⟩
  rw [← g1] at A1 D1 st1
  refine Gl.of st1 ?_
  have Gb1 : n0 ≤ b1 := Nat.le_trans (O0.1 ▸ O0.2.1) (Nat.le_of_eq g1.symm)
  have Jb1 : h0.size ≤ b1 := Nat.le_trans K0.1 (Nat.le_of_eq g1.symm)
  have ne_t1_b1 : t1 ≠ b1 := Nat.ne_of_lt (Nat.lt_of_lt_of_le V1.lt (Nat.le_of_eq g1.symm))
  have vc2 := V1.ext E1
  have O1 := O0.ext E1
  have K1 := K0.ext E1
  have F1_coder : Fld Z h1 b1 "java/lang/String" "coder" "B" (.int 0) := D1 (Or.inr (w29 hw)) (ty := .byte) (by decide)
  have F1_value : Fld Z h1 b1 "java/lang/String" "value" "[B" .null := D1 (Or.inr (w31 hw)) (ty := (.array .byte)) (by decide)
  show Gf p e below _ T1 m 10 #[vr t1, vi 0, vi 2] [(.ref b1)]
  refine gs (fun _ k => XS.dup X1.here hx rfl (hb y d16_10) rfl rfl (XS.aloadN X1.here hx rfl (hb y d16_11) rfl rfl (XS.iloadN X1.here hx rfl (hb y d16_12) rfl (XS.iloadN X1.here hx rfl (hb y d16_13) rfl (XS.iloadN X1.here hx rfl (hb y d16_14) rfl (XS.iadd X1.here hx rfl (hb y d16_15) rfl k)))))) ?_
  show Gf p e below _ T1 m 16 #[vr t1, vi 0, vi 2] [(.int 2), (.int 0), (.ref t1), (.ref b1), (.ref b1)]
  refine Gl.callCor X1 hx hZ hown (w97 hw) (w98 hw) (w99 hw) (w100 hw) (own_cor hw) vc2 hfb (fr := 0) (to := 2) (cap := 8) rfl (by decide) (by decide) (by decide) (by decide) (by decide) (vs' := [.int (o8 c0), .int (o8 c1)]) rfl (n := 2) rfl (by decide) (W := 2) (rest := [(.ref b1), (.ref b1)]) (by decide) (by decide) (by decide) (by decide) e1 rfl rfl hml.symm rfl (Nat.le_of_eq rfl) (hb y d16_16) ?_
  intro r3 T3 X3 E3 Sz3 Vr3
  have ne_t1_r3 : t1 ≠ r3 := Nat.ne_of_lt (Nat.lt_of_lt_of_le vc2.lt Sz3)
  have ne_b1_r3 : b1 ≠ r3 := Nat.ne_of_lt (Nat.lt_of_lt_of_le A1.lt Sz3)
  have Gr3 : n0 ≤ r3 := Nat.le_trans (O1.1 ▸ O1.2.1) Sz3
  have Jr3 : h0.size ≤ r3 := Nat.le_trans K1.1 Sz3
  have vc4 := vc2.ext E3
  have ec5 := A1.ext E3
  have fc6 := F1_coder.ext E3
  have fc7 := F1_value.ext E3
  have O3 := O1.ext E3
  have K3 := K1.ext E3
  show Gf p e below _ T3 m 19 #[vr t1, vi 0, vi 2] [(.ref r3), (.ref b1), (.ref b1)]
  refine gs (fun _ k => XS.iconst X3.here hx rfl (hb y d16_19) k) ?_
  refine Gl.callI X3 hx hZ (y := my21) rfl hown (w115 hw) (w116 hw) (w4 hw) (w117 hw) (desc_ne (by decide)) (rm := ro 1 0 0 13) (b := b1) (argsL := [(.ref r3), (.int 0)]) (rest := [(.ref b1)]) (rmV0 hw b1 r3 n0 ec5 fc7 fc6 Gb1 O3) 1 (by decide) (by decide) (by decide) (by decide) rfl hml.symm pd_16 rfl rfl (Nat.le_of_eq rfl) (hb y d16_20) ?_
  intro v8 T8 L8 X8 hQ8
  obtain ⟨rfl, Nq8, Kq8, Fv8, Fc8⟩ := hQ8
  have N8 := Fr.app (Fr.nil n0) Nq8
  have vc9 := vc4.keep Kq8 (fun q => ne_t1_b1 (List.mem_singleton.mp q))
  have ec10 := ec5.keep Kq8
  have vc11 := Vr3.keep Kq8 (fun q => ne_b1_r3.symm (List.mem_singleton.mp q))
  have O8 := O3.keep Kq8 (allS Gb1 all0)
  have K8 := K3.trans Kq8 (by intro x hx'; cases List.mem_singleton.mp hx'; exact Or.inr Jb1)
  show Gf p e below _ T8 m 23 #[vr t1, vi 0, vi 2] [(.ref b1)]
  exact Gl.retR X8 hx hlk hret rfl rfl (hb y d16_23) rfl (⟨_, _, rfl, ec10, Fv8, Or.inl ⟨Fc8, vc11, ⟨hl0, hl1⟩⟩, K8, N8⟩) (by decide) (by decide)
theorem rmS642 {l : Launch} {Z : State} {a0 : Array Value} (hw : HW Z a0) {h0 : Heap} (t1 a2 : Addr) (kB : ClassId) (c0 c1 c2 c3 : Int32) (fm : Value) (n0 : Nat) (V1 : Arv Z h0 t1 kB .byte (8 : Int32) [.int (oh c0), .int (ol c0), .int (oh c1), .int (ol c1), .int (oh c2), .int (ol c2), .int (oh c3), .int (ol c3)] (.int 0)) (V2 : Arv Z h0 a2 kB .byte (2 : Int32) [.int (0 : Int32), .int (0 : Int32)] (.int 0)) (hne : ¬ t1 = a2) (Ga2 : n0 ≤ a2) (hr0 : rg c0) (hr1 : rg c1) (hr2 : rg c2) (hr3 : rg c3) (SF : sSF Z fm) (rf : fm.isRef = true) (Sa : sSa Z) (Sh : sSh Z) (Sl : sSl Z) (O0 : Old Z n0 h0) : Con l Z my26 bc22 7 (some .int) [] (ro 3 0 0 44) 0 0 #[(.ref t1), (.int 0), (.ref a2), (.int 0), (.int 2)] h0 (fun v h L => ∃ r vs, v = some (.int r) ∧ Fr n0 L ∧ Keep h0 h [a2] ∧ Arv Z h a2 kB .byte (2 : Int32) vs (.int 0) ∧ ((r = (2 : Int32) ∧ vs = [.int (o8 c0), .int (o8 c1)] ∧ (¬ (255 : Int32) < c0 ∧ ¬ (255 : Int32) < c1)) ∨ (r = (0 : Int32) ∧ (255 : Int32) < c0) ∨ (r = (1 : Int32) ∧ (255 : Int32) < c1))) := by
  refine Con.intro (plainFor_of_name pn_0) ?_
  intro p e s m below meth c s₁ X0 hx y hml hZ hown hnm hret hlk e0 hs0
  refine gs (fun _ k => castTop (ef_26 m t1 (0 : Int32) a2 (0 : Int32) (2 : Int32)) k) ?_
  have K0 := Keep.refl h0 [a2]
  show Gf p e below _ s₁ m 0 #[vr t1, vi 0, vr a2, vi 0, vi 2, vu, vu] []
  refine gs (fun _ k => XS.iloadN X0.here hx rfl (hb y d36_0) rfl (XS.iload X0.here hx rfl (hb y d36_1) rfl (XS.aloadN X0.here hx rfl (hb y d36_3) rfl rfl k))) ?_
  refine Gl.callS0 X0 hx hZ (y := my24) hown (w174 hw) (w175 hw) (w19 hw) (w176 hw) (desc_ne (by decide)) (argsL := [(.int 0), (.int 2), (.ref t1)]) (rest := []) (rmS3 hw t1 (2 : Int32) (4 : Int32) fm n0 (rmX34 hw t1 kB _ V1) (by decide) (by decide) SF rf O0) 0 (by decide) (by decide) e0 hml.symm pd_17 rfl rfl (Nat.le_of_eq rfl) (hb y d36_4) (by decide) (by decide) ?_
  intro v1 T1 X1 e1 hv1
  subst hv1
  show Gf p e below _ T1 m 7 #[vr t1, vi 0, vr a2, vi 0, vi 2, vu, vu] []
  refine gs (fun _ k => XS.iconst X1.here hx rfl (hb y d36_7) (XS.istore X1.here hx rfl (hb y d36_8) rfl (l' := #[vr t1, vi 0, vr a2, vi 0, vi 2, vi 0, vu]) rfl (XS.iload X1.here hx rfl (hb y d36_10) rfl (XS.iload X1.here hx rfl (hb y d36_12) rfl (XS.icmpNo X1.here hx rfl (hb y d36_14) rfl (tlt (by decide : (0 : Int32) < (2 : Int32))).2.1 (XS.aloadN X1.here hx rfl (hb y d36_17) rfl rfl k)))))) ?_
  show Gf p e below _ T1 m 18 #[vr t1, vi 0, vr a2, vi 0, vi 2, vi 0, vu] [(.ref t1)]
  refine gs (fun _ k => XS.iloadN X1.here hx rfl (hb y d36_18) rfl k) ?_
  refine Gl.callS0 X1 hx hZ (y := my5) hown (w151 hw) (w152 hw) (w19 hw) (w153 hw) (desc_ne (by decide)) (argsL := [(.ref t1), (.int 0)]) (rest := []) (rmG40 hw t1 kB c0 c1 c2 c3 n0 V1 hr0 Sa Sh Sl O0) 0 (by decide) (by decide) e1 hml.symm pd_5 rfl rfl (Nat.le_of_eq rfl) (hb y d36_19) (by decide) (by decide) ?_
  intro v2 T2 X2 e2 hv2
  subst hv2
  show Gf p e below _ T2 m 22 #[vr t1, vi 0, vr a2, vi 0, vi 2, vi 0, vu] [(.int c0)]
  refine gs (fun _ k => XS.istore X2.here hx rfl (hb y d36_22) rfl (l' := #[vr t1, vi 0, vr a2, vi 0, vi 2, vi 0, vi c0]) rfl (XS.iload X2.here hx rfl (hb y d36_24) rfl (XS.sipush X2.here hx rfl (hb y d36_26) k))) ?_
  by_cases hc29_3 : (255 : Int32) < c0
  · refine Gl.of (fun _ kq_ => XS.icmpNo X2.here hx rfl (hb y d36_29) rfl (tlt hc29_3).2.2.2 kq_) ?_
    refine gs (fun _ k => XS.iload X2.here hx rfl (hb y d36_32) rfl k) ?_
    exact Gl.retI X2 hx hlk hret (hb y d36_34) e2 (⟨_, _, rfl, (Fr.nil n0), K0, V2, Or.inr (Or.inl ⟨rfl, hc29_3⟩)⟩) (by decide) (by decide)
  · refine Gl.of (fun _ kq_ => XS.icmpYes X2.here hx rfl (pc0 := 29) (pc' := 35) rfl (hb y d36_29) rfl (flt hc29_3).2.2.2 (by decide) (by decide) kq_) ?_
    refine gs (fun _ k => XS.aloadN X2.here hx rfl (hb y d36_35) rfl rfl (XS.iloadN X2.here hx rfl (hb y d36_36) rfl k)) ?_
    show Gf p e below _ T2 m 37 #[vr t1, vi 0, vr a2, vi 0, vi 2, vi 0, vi c0] [(.int 0), (.ref a2)]
    refine gs (fun _ k => XS.iload X2.here hx rfl (hb y d36_37) rfl (XS.i2b X2.here hx rfl (hb y d36_39) rfl k)) ?_
    obtain ⟨zcl4, zAr4, zq4, zS4, zM4, zH4, zG4⟩ := id V2
    obtain ⟨T5, h5, X5, e5, W5, st5⟩ := stB X2 hx hZ e2 zAr4 (j := (0 : Int32)) (inb_of zS4 ⟨by decide, by decide⟩) (g := (mkF m 40 #[vr t1, vi 0, vr a2, vi 0, vi 2, vi 0, vi c0] [(.int (c0.toInt8.toInt32)), (.int 0), (.ref a2)])) rfl rfl (hb y d36_40)
    refine Gl.of st5 ?_
    have V5 : Arv Z h5 a2 kB .byte (2 : Int32) [(.int (nar .byte (c0.toInt8.toInt32))), (.int 0)] (.int 0) := Arv.set zAr4 zq4 zS4 zM4 zH4 zG4 (fits_nar_byte _) W5 0 rfl (Nat.le_of_ble_eq_true rfl)
    have vc6 := V1.other W5 hne
    have N5 := Fr.snoc X5 (Fr.nil n0) Ga2
    have O5 := O0.wr W5 Ga2
    have K5 := K0.wr W5 (Or.inl (List.mem_of_getElem? (i := 0) rfl))
    show Gf p e below _ T5 m 41 #[vr t1, vi 0, vr a2, vi 0, vi 2, vi 0, vi c0] []
    refine gs (fun _ k => XS.iinc X5.here hx rfl (hb y d36_41) rfl (l' := #[vr t1, vi 1, vr a2, vi 0, vi 2, vi 0, vi c0]) rfl (XS.iinc X5.here hx rfl (hb y d36_44) rfl (l' := #[vr t1, vi 1, vr a2, vi 1, vi 2, vi 0, vi c0]) rfl (XS.iinc X5.here hx rfl (hb y d36_47) rfl (l' := #[vr t1, vi 1, vr a2, vi 1, vi 2, vi 1, vi c0]) rfl (XS.goto X5.here hx rfl (pc0 := 50) (pc' := 10) rfl (hb y d36_50) (by decide) (by decide) (XS.iload X5.here hx rfl (hb y d36_10) rfl (XS.iload X5.here hx rfl (hb y d36_12) rfl k)))))) ?_
    show Gf p e below _ T5 m 14 #[vr t1, vi 1, vr a2, vi 1, vi 2, vi 1, vi c0] [(.int 2), (.int 1)]
    refine gs (fun _ k => XS.icmpNo X5.here hx rfl (hb y d36_14) rfl (tlt (by decide : (1 : Int32) < (2 : Int32))).2.1 (XS.aloadN X5.here hx rfl (hb y d36_17) rfl rfl (XS.iloadN X5.here hx rfl (hb y d36_18) rfl k))) ?_
    refine Gl.callS0 X5 hx hZ (y := my5) hown (w151 hw) (w152 hw) (w19 hw) (w153 hw) (desc_ne (by decide)) (argsL := [(.ref t1), (.int 1)]) (rest := []) (rmG41 hw t1 kB c0 c1 c2 c3 n0 vc6 hr1 Sa Sh Sl O5) 0 (by decide) (by decide) e5 hml.symm pd_5 rfl rfl (Nat.le_of_eq rfl) (hb y d36_19) (by decide) (by decide) ?_
    intro v7 T7 X7 e7 hv7
    subst hv7
    show Gf p e below _ T7 m 22 #[vr t1, vi 1, vr a2, vi 1, vi 2, vi 1, vi c0] [(.int c1)]
    refine gs (fun _ k => XS.istore X7.here hx rfl (hb y d36_22) rfl (l' := #[vr t1, vi 1, vr a2, vi 1, vi 2, vi 1, vi c1]) rfl (XS.iload X7.here hx rfl (hb y d36_24) rfl (XS.sipush X7.here hx rfl (hb y d36_26) k))) ?_
    by_cases hc29_8 : (255 : Int32) < c1
    · refine Gl.of (fun _ kq_ => XS.icmpNo X7.here hx rfl (hb y d36_29) rfl (tlt hc29_8).2.2.2 kq_) ?_
      refine gs (fun _ k => XS.iload X7.here hx rfl (hb y d36_32) rfl k) ?_
      exact Gl.retI X7 hx hlk hret (hb y d36_34) e7 (⟨_, _, rfl, N5, K5, V5, Or.inr (Or.inr (⟨rfl, hc29_8⟩))⟩) (by decide) (by decide)
    · refine Gl.of (fun _ kq_ => XS.icmpYes X7.here hx rfl (pc0 := 29) (pc' := 35) rfl (hb y d36_29) rfl (flt hc29_8).2.2.2 (by decide) (by decide) kq_) ?_
      refine gs (fun _ k => XS.aloadN X7.here hx rfl (hb y d36_35) rfl rfl (XS.iloadN X7.here hx rfl (hb y d36_36) rfl k)) ?_
      show Gf p e below _ T7 m 37 #[vr t1, vi 1, vr a2, vi 1, vi 2, vi 1, vi c1] [(.int 1), (.ref a2)]
      refine gs (fun _ k => XS.iload X7.here hx rfl (hb y d36_37) rfl (XS.i2b X7.here hx rfl (hb y d36_39) rfl k)) ?_
      obtain ⟨zcl9, zAr9, zq9, zS9, zM9, zH9, zG9⟩ := id V5
      obtain ⟨T10, h10, X10, e10, W10, st10⟩ := stB X7 hx hZ e7 zAr9 (j := (1 : Int32)) (inb_of zS9 ⟨by decide, by decide⟩) (g := (mkF m 40 #[vr t1, vi 1, vr a2, vi 1, vi 2, vi 1, vi c1] [(.int (c1.toInt8.toInt32)), (.int 1), (.ref a2)])) rfl rfl (hb y d36_40)
      refine Gl.of st10 ?_
      have V10 : Arv Z h10 a2 kB .byte (2 : Int32) [(.int (nar .byte (c0.toInt8.toInt32))), (.int (nar .byte (c1.toInt8.toInt32)))] (.int 0) := Arv.set zAr9 zq9 zS9 zM9 zH9 zG9 (fits_nar_byte _) W10 1 rfl (Nat.le_of_ble_eq_true rfl)
      have vc11 := vc6.other W10 hne
      have N10 := Fr.snoc X10 N5 Ga2
      have O10 := O5.wr W10 Ga2
      have K10 := K5.wr W10 (Or.inl (List.mem_of_getElem? (i := 0) rfl))
      show Gf p e below _ T10 m 41 #[vr t1, vi 1, vr a2, vi 1, vi 2, vi 1, vi c1] []
      refine gs (fun _ k => XS.iinc X10.here hx rfl (hb y d36_41) rfl (l' := #[vr t1, vi 2, vr a2, vi 1, vi 2, vi 1, vi c1]) rfl (XS.iinc X10.here hx rfl (hb y d36_44) rfl (l' := #[vr t1, vi 2, vr a2, vi 2, vi 2, vi 1, vi c1]) rfl (XS.iinc X10.here hx rfl (hb y d36_47) rfl (l' := #[vr t1, vi 2, vr a2, vi 2, vi 2, vi 2, vi c1]) rfl (XS.goto X10.here hx rfl (pc0 := 50) (pc' := 10) rfl (hb y d36_50) (by decide) (by decide) (XS.iload X10.here hx rfl (hb y d36_10) rfl (XS.iload X10.here hx rfl (hb y d36_12) rfl k)))))) ?_
      show Gf p e below _ T10 m 14 #[vr t1, vi 2, vr a2, vi 2, vi 2, vi 2, vi c1] [(.int 2), (.int 2)]
      refine gs (fun _ k => XS.icmpYes X10.here hx rfl (pc0 := 14) (pc' := 53) rfl (hb y d36_14) rfl (flt (by decide : ¬ ((2 : Int32) < (2 : Int32)))).2.1 (by decide) (by decide) (XS.iload X10.here hx rfl (hb y d36_53) rfl k)) ?_
      exact Gl.retI X10 hx hlk hret (hb y d36_55) e10 (⟨_, _, rfl, N10, K10, V10, Or.inl ⟨rfl, rfl, hc29_3, hc29_8⟩⟩) (by decide) (by decide)
theorem rmS742 {l : Launch} {Z : State} {a0 : Array Value} (hw : HW Z a0) {h0 : Heap} (t1 : Addr) (kB : ClassId) (c0 c1 c2 c3 : Int32) (fm : Value) (n0 : Nat) (hfb : Z.vm.findClass "[B" = some kB) (V1 : Arv Z h0 t1 kB .byte (8 : Int32) [.int (oh c0), .int (ol c0), .int (oh c1), .int (ol c1), .int (oh c2), .int (ol c2), .int (oh c3), .int (ol c3)] (.int 0)) (hr0 : rg c0) (hr1 : rg c1) (hr2 : rg c2) (hr3 : rg c3) (SF : sSF Z fm) (rf : fm.isRef = true) (Sa : sSa Z) (Sh : sSh Z) (Sl : sSl Z) (O0 : Old Z n0 h0) : Con l Z my27 bc20 6 (some (.array .byte)) [] (ro 4 2 12 98) 2 12 #[(.ref t1), (.int 0), (.int 2)] h0 (fun v h L => ∃ r, v = some (.ref r) ∧ ((Arv Z h r kB .byte (2 : Int32) [.int (o8 c0), .int (o8 c1)] (.int 0) ∧ (¬ (255 : Int32) < c0 ∧ ¬ (255 : Int32) < c1)) ∨ Arv Z h r kB .byte (4 : Int32) [.int (oh c0), .int (ol c0), .int (oh c1), .int (ol c1)] (.int 0)) ∧ Keep h0 h [] ∧ Fr n0 L ∧ n0 ≤ r ∧ h0.size ≤ r) := by
  refine Con.intro (plainFor_of_name pn_0) ?_
  intro p e s m below meth c s₁ X0 hx y hml hZ hown hnm hret hlk e0 hs0
  refine gs (fun _ k => castTop (ef_27 m t1 (0 : Int32) (2 : Int32)) k) ?_
  have K0 := Keep.refl h0 []
  show Gf p e below _ s₁ m 0 #[vr t1, vi 0, vi 2, vu, vu, vu] []
  refine gs (fun _ k => XS.iloadN X0.here hx rfl (hb y d35_0) rfl k) ?_
  obtain ⟨T1, h1, k1, X1, e1, E1, A1, Ex1, st1⟩ := newPE (aty := .byte) X0 hx hZ (w21 hw) e0 (g := (mkF m 1 #[vr t1, vi 0, vi 2, vu, vu, vu] [(.int 2)])) rfl (hb y d35_1) rfl (by decide) (cap := 2) (by decide) (by decide) (by decide) (by decide) (ad := "[B") rfl
  have kq1 := own_fbn A1 Ex1 hfb
  rw [kq1] at A1
  obtain ⟨b1, g1⟩ : ∃ z, z = h0.size := ⟨_, rfl⟩
  rw [← g1] at A1 st1
  refine Gl.of st1 ?_
  have Gb1 : n0 ≤ b1 := Nat.le_trans (O0.1 ▸ O0.2.1) (Nat.le_of_eq g1.symm)
  have Jb1 : h0.size ≤ b1 := Nat.le_trans K0.1 (Nat.le_of_eq g1.symm)
  have ne_t1_b1 : t1 ≠ b1 := Nat.ne_of_lt (Nat.lt_of_lt_of_le V1.lt (Nat.le_of_eq g1.symm))
  have vc2 := V1.ext E1
  have O1 := O0.ext E1
  have K1 := K0.ext E1
  have V1 : Arv Z h1 b1 kB .byte (2 : Int32) [(.int 0), (.int 0)] (.int 0) := (Arv.new A1 (by decide)).pad (pad_rep [] (.int 0) 2)
  show Gf p e below _ T1 m 3 #[vr t1, vi 0, vi 2, vu, vu, vu] [(.ref b1)]
  refine gs (fun _ k => XS.astoreN X1.here hx rfl (hb y d35_3) rfl rfl (l' := #[vr t1, vi 0, vi 2, vr b1, vu, vu]) rfl (XS.aloadN X1.here hx rfl (hb y d35_4) rfl rfl (XS.iloadN X1.here hx rfl (hb y d35_5) rfl (XS.aloadN X1.here hx rfl (hb y d35_6) rfl rfl (XS.iconst X1.here hx rfl (hb y d35_7) (XS.iloadN X1.here hx rfl (hb y d35_8) rfl k)))))) ?_
  show Gf p e below _ T1 m 9 #[vr t1, vi 0, vi 2, vr b1, vu, vu] [(.int 2), (.int 0), (.ref b1), (.int 0), (.ref t1)]
  refine Gl.callS X1 hx hZ (y := my26) hown (w171 hw) (w172 hw) (w19 hw) (w173 hw) (desc_ne (by decide)) (rm := ro 3 0 0 44) (argsL := [(.ref t1), (.int 0), (.ref b1), (.int 0), (.int 2)]) (rest := []) (rmS642 hw t1 b1 kB c0 c1 c2 c3 fm n0 vc2 V1 ne_t1_b1 Gb1 hr0 hr1 hr2 hr3 SF rf Sa Sh Sl O1) 0 (by decide) (by decide) (by decide) (by decide) e1 hml.symm pd_18 rfl rfl (Nat.le_of_eq rfl) (hb y d35_9) ?_
  intro v3 T3 L3 X3 hQ3
  obtain ⟨z3, vs3, rfl, Nq3, Kq3, Vq3, dj3⟩ := hQ3
  have N3 := Fr.app (Fr.nil n0) Nq3
  have vc4 := vc2.keep Kq3 (fun q => ne_t1_b1 (List.mem_singleton.mp q))
  have O3 := O1.keep Kq3 (allS Gb1 all0)
  have K3 := K1.trans Kq3 (by intro x hx'; cases List.mem_singleton.mp hx'; exact Or.inr Jb1)
  rcases dj3 with ⟨rfl, rfl, le3⟩ | ⟨rfl, hb3⟩ | ⟨rfl, hb3⟩
  · show Gf p e below _ T3 m 12 #[vr t1, vi 0, vi 2, vr b1, vu, vu] [(.int 2)]
    refine gs (fun _ k => XS.istore X3.here hx rfl (hb y d35_12) rfl (l' := #[vr t1, vi 0, vi 2, vr b1, vi 2, vu]) rfl (XS.iload X3.here hx rfl (hb y d35_14) rfl (XS.iloadN X3.here hx rfl (hb y d35_16) rfl (XS.icmpYes X3.here hx rfl (pc0 := 17) (pc' := 64) rfl (hb y d35_17) rfl (teq (by decide : (2 : Int32) = (2 : Int32))).1 (by decide) (by decide) (XS.aloadN X3.here hx rfl (hb y d35_64) rfl rfl k))))) ?_
    exact Gl.retR X3 hx hlk hret rfl rfl (hb y d35_65) rfl (⟨_, rfl, Or.inl ⟨Vq3, le3⟩, K3, N3, Gb1, Jb1⟩) (by decide) (by decide)
  · show Gf p e below _ T3 m 12 #[vr t1, vi 0, vi 2, vr b1, vu, vu] [(.int 0)]
    refine gs (fun _ k => XS.istore X3.here hx rfl (hb y d35_12) rfl (l' := #[vr t1, vi 0, vi 2, vr b1, vi 0, vu]) rfl (XS.iload X3.here hx rfl (hb y d35_14) rfl (XS.iloadN X3.here hx rfl (hb y d35_16) rfl (XS.icmpNo X3.here hx rfl (hb y d35_17) rfl (feq (by decide : ¬ ((0 : Int32) = (2 : Int32)))).1 (XS.aloadN X3.here hx rfl (hb y d35_20) rfl rfl (XS.iloadN X3.here hx rfl (hb y d35_21) rfl k)))))) ?_
    show Gf p e below _ T3 m 22 #[vr t1, vi 0, vi 2, vr b1, vi 0, vu] [(.int 0), (.ref t1)]
    refine gs (fun _ k => XS.iconst X3.here hx rfl (hb y d35_22) (XS.ishl X3.here hx rfl (hb y d35_23) rfl k)) ?_
    show Gf p e below _ T3 m 24 #[vr t1, vi 0, vi 2, vr b1, vi 0, vu] [(.int 0), (.ref t1)]
    refine gs (fun _ k => XS.iloadN X3.here hx rfl (hb y d35_24) rfl (XS.iloadN X3.here hx rfl (hb y d35_25) rfl (XS.iadd X3.here hx rfl (hb y d35_26) rfl k))) ?_
    show Gf p e below _ T3 m 27 #[vr t1, vi 0, vi 2, vr b1, vi 0, vu] [(.int 2), (.int 0), (.ref t1)]
    refine Gl.callS0 X3 hx hZ (y := my2) hown (w141 hw) (w142 hw) (w19 hw) (w143 hw) (desc_ne (by decide)) (argsL := [(.int 2)]) (rest := [(.int 0), (.ref t1)]) (rmL2 hw) 2 (by decide) (by decide) rfl hml.symm pd_0 rfl rfl (Nat.le_of_eq rfl) (hb y d35_27) (by decide) (by decide) ?_
    intro v5 T5 X5 e5 hv5
    subst hv5
    show Gf p e below _ T5 m 30 #[vr t1, vi 0, vi 2, vr b1, vi 0, vu] [(.int 4), (.int 0), (.ref t1)]
    refine Gl.callCor X5 hx hZ hown (w183 hw) (w98 hw) (w99 hw) (w100 hw) (own_cor hw) vc4 hfb (fr := 0) (to := 4) (cap := 8) rfl (by decide) (by decide) (by decide) (by decide) (by decide) (vs' := [.int (oh c0), .int (ol c0), .int (oh c1), .int (ol c1)]) rfl (n := 4) rfl (by decide) (W := 0) (rest := []) (by decide) (by decide) (by decide) (by decide) e5 rfl rfl hml.symm rfl (Nat.le_of_eq rfl) (hb y d35_30) ?_
    intro r6 T6 X6 E6 Sz6 Vr6
    have ne_t1_r6 : t1 ≠ r6 := Nat.ne_of_lt (Nat.lt_of_lt_of_le vc4.lt Sz6)
    have ne_b1_r6 : b1 ≠ r6 := Nat.ne_of_lt (Nat.lt_of_lt_of_le Vq3.lt Sz6)
    have Gr6 : n0 ≤ r6 := Nat.le_trans (O3.1 ▸ O3.2.1) Sz6
    have Jr6 : h0.size ≤ r6 := Nat.le_trans K3.1 Sz6
    have vc7 := vc4.ext E6
    have vc8 := Vq3.ext E6
    have O6 := O3.ext E6
    have K6 := K3.ext E6
    show Gf p e below _ T6 m 33 #[vr t1, vi 0, vi 2, vr b1, vi 0, vu] [(.ref r6)]
    refine gs (fun _ k => XS.astore X6.here hx rfl (hb y d35_33) rfl rfl (l' := #[vr t1, vi 0, vi 2, vr b1, vi 0, vr r6]) rfl (XS.aload X6.here hx rfl (hb y d35_35) rfl rfl (XS.iload X6.here hx rfl (hb y d35_37) rfl k))) ?_
    refine Gl.callS0 X6 hx hZ (y := my5) hown (w151 hw) (w152 hw) (w19 hw) (w153 hw) (desc_ne (by decide)) (argsL := [(.ref r6), (.int 0)]) (rest := []) (rmG20 hw r6 kB c0 c1 n0 Vr6 hr0 Sa Sh Sl O6) 0 (by decide) (by decide) rfl hml.symm pd_5 rfl rfl (Nat.le_of_eq rfl) (hb y d35_39) (by decide) (by decide) ?_
    intro v9 T9 X9 e9 hv9
    subst hv9
    show Gf p e below _ T9 m 42 #[vr t1, vi 0, vi 2, vr b1, vi 0, vr r6] [(.int c0)]
    refine gs (fun _ k => XS.sipush X9.here hx rfl (hb y d35_42) (XS.icmpYes X9.here hx rfl (pc0 := 45) (pc' := 61) rfl (hb y d35_45) rfl (tlt hb3).2.2.1 (by decide) (by decide) (XS.aload X9.here hx rfl (hb y d35_61) rfl rfl k))) ?_
    exact Gl.retR X9 hx hlk hret rfl rfl (hb y d35_63) e9 (⟨_, rfl, Or.inr Vr6, K6, N3, Gr6, Jr6⟩) (by decide) (by decide)
  · show Gf p e below _ T3 m 12 #[vr t1, vi 0, vi 2, vr b1, vu, vu] [(.int 1)]
    refine gs (fun _ k => XS.istore X3.here hx rfl (hb y d35_12) rfl (l' := #[vr t1, vi 0, vi 2, vr b1, vi 1, vu]) rfl (XS.iload X3.here hx rfl (hb y d35_14) rfl (XS.iloadN X3.here hx rfl (hb y d35_16) rfl (XS.icmpNo X3.here hx rfl (hb y d35_17) rfl (feq (by decide : ¬ ((1 : Int32) = (2 : Int32)))).1 (XS.aloadN X3.here hx rfl (hb y d35_20) rfl rfl (XS.iloadN X3.here hx rfl (hb y d35_21) rfl k)))))) ?_
    show Gf p e below _ T3 m 22 #[vr t1, vi 0, vi 2, vr b1, vi 1, vu] [(.int 0), (.ref t1)]
    refine gs (fun _ k => XS.iconst X3.here hx rfl (hb y d35_22) (XS.ishl X3.here hx rfl (hb y d35_23) rfl k)) ?_
    show Gf p e below _ T3 m 24 #[vr t1, vi 0, vi 2, vr b1, vi 1, vu] [(.int 0), (.ref t1)]
    refine gs (fun _ k => XS.iloadN X3.here hx rfl (hb y d35_24) rfl (XS.iloadN X3.here hx rfl (hb y d35_25) rfl (XS.iadd X3.here hx rfl (hb y d35_26) rfl k))) ?_
    show Gf p e below _ T3 m 27 #[vr t1, vi 0, vi 2, vr b1, vi 1, vu] [(.int 2), (.int 0), (.ref t1)]
    refine Gl.callS0 X3 hx hZ (y := my2) hown (w141 hw) (w142 hw) (w19 hw) (w143 hw) (desc_ne (by decide)) (argsL := [(.int 2)]) (rest := [(.int 0), (.ref t1)]) (rmL2 hw) 2 (by decide) (by decide) rfl hml.symm pd_0 rfl rfl (Nat.le_of_eq rfl) (hb y d35_27) (by decide) (by decide) ?_
    intro v10 T10 X10 e10 hv10
    subst hv10
    show Gf p e below _ T10 m 30 #[vr t1, vi 0, vi 2, vr b1, vi 1, vu] [(.int 4), (.int 0), (.ref t1)]
    refine Gl.callCor X10 hx hZ hown (w183 hw) (w98 hw) (w99 hw) (w100 hw) (own_cor hw) vc4 hfb (fr := 0) (to := 4) (cap := 8) rfl (by decide) (by decide) (by decide) (by decide) (by decide) (vs' := [.int (oh c0), .int (ol c0), .int (oh c1), .int (ol c1)]) rfl (n := 4) rfl (by decide) (W := 0) (rest := []) (by decide) (by decide) (by decide) (by decide) e10 rfl rfl hml.symm rfl (Nat.le_of_eq rfl) (hb y d35_30) ?_
    intro r11 T11 X11 E11 Sz11 Vr11
    have ne_t1_r11 : t1 ≠ r11 := Nat.ne_of_lt (Nat.lt_of_lt_of_le vc4.lt Sz11)
    have ne_b1_r11 : b1 ≠ r11 := Nat.ne_of_lt (Nat.lt_of_lt_of_le Vq3.lt Sz11)
    have Gr11 : n0 ≤ r11 := Nat.le_trans (O3.1 ▸ O3.2.1) Sz11
    have Jr11 : h0.size ≤ r11 := Nat.le_trans K3.1 Sz11
    have vc12 := vc4.ext E11
    have vc13 := Vq3.ext E11
    have O11 := O3.ext E11
    have K11 := K3.ext E11
    show Gf p e below _ T11 m 33 #[vr t1, vi 0, vi 2, vr b1, vi 1, vu] [(.ref r11)]
    refine gs (fun _ k => XS.astore X11.here hx rfl (hb y d35_33) rfl rfl (l' := #[vr t1, vi 0, vi 2, vr b1, vi 1, vr r11]) rfl (XS.aload X11.here hx rfl (hb y d35_35) rfl rfl (XS.iload X11.here hx rfl (hb y d35_37) rfl k))) ?_
    refine Gl.callS0 X11 hx hZ (y := my5) hown (w151 hw) (w152 hw) (w19 hw) (w153 hw) (desc_ne (by decide)) (argsL := [(.ref r11), (.int 1)]) (rest := []) (rmG21 hw r11 kB c0 c1 n0 Vr11 hr1 Sa Sh Sl O11) 0 (by decide) (by decide) rfl hml.symm pd_5 rfl rfl (Nat.le_of_eq rfl) (hb y d35_39) (by decide) (by decide) ?_
    intro v14 T14 X14 e14 hv14
    subst hv14
    show Gf p e below _ T14 m 42 #[vr t1, vi 0, vi 2, vr b1, vi 1, vr r11] [(.int c1)]
    refine gs (fun _ k => XS.sipush X14.here hx rfl (hb y d35_42) (XS.icmpYes X14.here hx rfl (pc0 := 45) (pc' := 61) rfl (hb y d35_45) rfl (tlt hb3).2.2.1 (by decide) (by decide) (XS.aload X14.here hx rfl (hb y d35_61) rfl rfl k))) ?_
    exact Gl.retR X14 hx hlk hret rfl rfl (hb y d35_63) e14 (⟨_, rfl, Or.inr Vr11, K11, N3, Gr11, Jr11⟩) (by decide) (by decide)
theorem rmS842 {l : Launch} {Z : State} {a0 : Array Value} (hw : HW Z a0) {h0 : Heap} (t1 : Addr) (kB : ClassId) (c0 c1 c2 c3 : Int32) (cz : Int32) (fm : Value) (n0 : Nat) (hfb : Z.vm.findClass "[B" = some kB) (V1 : Arv Z h0 t1 kB .byte (8 : Int32) [.int (oh c0), .int (ol c0), .int (oh c1), .int (ol c1), .int (oh c2), .int (ol c2), .int (oh c3), .int (ol c3)] (.int 0)) (hr0 : rg c0) (hr1 : rg c1) (hr2 : rg c2) (hr3 : rg c3) (SC : sSC Z cz) (hcz : ¬ cz = 0) (SF : sSF Z fm) (rf : fm.isRef = true) (Sa : sSa Z) (Sh : sSh Z) (Sl : sSl Z) (O0 : Old Z n0 h0) : Con l Z my28 bc27 5 (some (.object "java/lang/String")) [] (ro 5 3 20 118) 3 20 #[(.ref t1), (.int 0), (.int 2)] h0 (fun v h L => ∃ x t, v = some (.ref x) ∧ xS Z h x ∧ fV Z h x t ∧ ((fC Z h x 0 ∧ Arv Z h t kB .byte (2 : Int32) [.int (o8 c0), .int (o8 c1)] (.int 0) ∧ (¬ (255 : Int32) < c0 ∧ ¬ (255 : Int32) < c1)) ∨ (fC Z h x 1 ∧ Arv Z h t kB .byte (4 : Int32) [.int (oh c0), .int (ol c0), .int (oh c1), .int (ol c1)] (.int 0))) ∧ Keep h0 h [] ∧ Fr n0 L) := by
  refine Con.intro (plainFor_of_name pn_0) ?_
  intro p e s m below meth c s₁ X0 hx y hml hZ hown hnm hret hlk e0 hs0
  refine gs (fun _ k => castTop (ef_28 m t1 (0 : Int32) (2 : Int32)) k) ?_
  have K0 := Keep.refl h0 []
  show Gf p e below _ s₁ m 0 #[vr t1, vi 0, vi 2, vu, vu] []
  refine gs (fun _ k => XS.iloadN X0.here hx rfl (hb y d34_0) rfl (XS.ifYes X0.here hx rfl (pc0 := 1) (pc' := 8) rfl (hb y d34_1) rfl ((if0 _ _).trans (feq (by decide : ¬ ((2 : Int32) = (0 : Int32)))).2) (by decide) (by decide) k)) ?_
  obtain ⟨T1, X1, e1, st1⟩ := getS2 X0 hx hZ hown (host := "") (Or.inl (w167 hw)) Via.refl e0 (SC.ext O0.2) (g := (mkF m 8 #[vr t1, vi 0, vi 2, vu, vu] [])) rfl (hb y d34_8)
  refine Gl.of st1 ?_
  show Gf p e below _ T1 m 11 #[vr t1, vi 0, vi 2, vu, vu] [(.int cz)]
  refine gs (fun _ k => XS.ifNo X1.here hx rfl (hb y d34_11) rfl ((if0 _ _).trans (feq hcz).1) (XS.aloadN X1.here hx rfl (hb y d34_14) rfl rfl (XS.iloadN X1.here hx rfl (hb y d34_15) rfl (XS.iloadN X1.here hx rfl (hb y d34_16) rfl k)))) ?_
  refine Gl.callS X1 hx hZ (y := my27) hown (w168 hw) (w169 hw) (w19 hw) (w170 hw) (desc_ne (by decide)) (rm := ro 4 2 12 98) (argsL := [(.ref t1), (.int 0), (.int 2)]) (rest := []) (rmS742 hw t1 kB c0 c1 c2 c3 fm n0 hfb V1 hr0 hr1 hr2 hr3 SF rf Sa Sh Sl O0) 0 (by decide) (by decide) (by decide) (by decide) e1 hml.symm pd_19 rfl rfl (Nat.le_of_eq rfl) (hb y d34_17) ?_
  intro v2 T2 L2 X2 hQ2
  obtain ⟨r2, rfl, dj2, Kq2, Nq2, Gr2, H2⟩ := hQ2
  have N2 := Fr.app (Fr.nil n0) Nq2
  have ne_t1_r2 : t1 ≠ r2 := Nat.ne_of_lt (Nat.lt_of_lt_of_le V1.lt H2)
  have Jr2 : h0.size ≤ r2 := Nat.le_trans K0.1 H2
  have vc3 := V1.keep Kq2 (by simp)
  have O2 := O0.keep Kq2 all0
  have K2 := K0.trans Kq2 (by intro x hx'; exact nomatch hx')
  rcases dj2 with ⟨Vq2, le2⟩ | Vq2
  · show Gf p e below _ T2 m 20 #[vr t1, vi 0, vi 2, vu, vu] [(.ref r2)]
    refine gs (fun _ k => XS.astoreN X2.here hx rfl (hb y d34_20) rfl rfl (l' := #[vr t1, vi 0, vi 2, vr r2, vu]) rfl (XS.aloadN X2.here hx rfl (hb y d34_21) rfl rfl (XS.iloadN X2.here hx rfl (hb y d34_22) rfl k))) ?_
    refine Gl.callS0 X2 hx hZ (y := my8) hown (w184 hw) (w26 hw) (w19 hw) (w27 hw) (desc_ne (by decide)) (argsL := [(.ref r2), (.int 2)]) (rest := []) (rmZ20 hw r2 kB _ Vq2) 0 (by decide) (by decide) rfl hml.symm pd_6 rfl rfl (Nat.le_of_eq rfl) (hb y d34_23) (by decide) (by decide) ?_
    intro v4 T4 X4 e4 hv4
    subst hv4
    show Gf p e below _ T4 m 26 #[vr t1, vi 0, vi 2, vr r2, vu] [(.int 0)]
    refine gs (fun _ k => XS.istore X4.here hx rfl (hb y d34_26) rfl (l' := #[vr t1, vi 0, vi 2, vr r2, vi 0]) rfl k) ?_
    obtain ⟨T5, h5, X5, e5, E5, A5, D5, -, st5⟩ := newO X4 hx hZ hown (w185 hw) (w3 hw) (w4 hw) e4 (g := (mkF m 28 #[vr t1, vi 0, vi 2, vr r2, vi 0] [])) rfl (hb y d34_28) (by decide) (by decide)
    obtain ⟨b5, g5⟩ : ∃ z, z = T2.heap.size := ⟨_, rfl⟩
    rw [← g5] at A5 D5 st5
    refine Gl.of st5 ?_
    have Gb5 : n0 ≤ b5 := Nat.le_trans (O2.1 ▸ O2.2.1) (Nat.le_of_eq g5.symm)
    have Jb5 : h0.size ≤ b5 := Nat.le_trans K2.1 (Nat.le_of_eq g5.symm)
    have ne_t1_b5 : t1 ≠ b5 := Nat.ne_of_lt (Nat.lt_of_lt_of_le vc3.lt (Nat.le_of_eq g5.symm))
    have ne_r2_b5 : r2 ≠ b5 := Nat.ne_of_lt (Nat.lt_of_lt_of_le Vq2.lt (Nat.le_of_eq g5.symm))
    have vc6 := vc3.ext E5
    have vc7 := Vq2.ext E5
    have O5 := O2.ext E5
    have K5 := K2.ext E5
    have F5_coder : Fld Z h5 b5 "java/lang/String" "coder" "B" (.int 0) := D5 (Or.inr (w29 hw)) (ty := .byte) (by decide)
    have F5_value : Fld Z h5 b5 "java/lang/String" "value" "[B" .null := D5 (Or.inr (w31 hw)) (ty := (.array .byte)) (by decide)
    show Gf p e below _ T5 m 31 #[vr t1, vi 0, vi 2, vr r2, vi 0] [(.ref b5)]
    refine gs (fun _ k => XS.dup X5.here hx rfl (hb y d34_31) rfl rfl (XS.aloadN X5.here hx rfl (hb y d34_32) rfl rfl (XS.iload X5.here hx rfl (hb y d34_33) rfl k))) ?_
    refine Gl.callI X5 hx hZ (y := my21) rfl hown (w186 hw) (w116 hw) (w4 hw) (w117 hw) (desc_ne (by decide)) (rm := ro 1 0 0 13) (b := b5) (argsL := [(.ref r2), (.int 0)]) (rest := [(.ref b5)]) (rmV0 hw b5 r2 n0 A5 F5_value F5_coder Gb5 O5) 1 (by decide) (by decide) (by decide) (by decide) e5 hml.symm pd_16 rfl rfl (Nat.le_of_eq rfl) (hb y d34_35) ?_
    intro v8 T8 L8 X8 hQ8
    obtain ⟨rfl, Nq8, Kq8, Fv8, Fc8⟩ := hQ8
    have N8 := Fr.app N2 Nq8
    have vc9 := vc6.keep Kq8 (fun q => ne_t1_b5 (List.mem_singleton.mp q))
    have vc10 := vc7.keep Kq8 (fun q => ne_r2_b5 (List.mem_singleton.mp q))
    have ec11 := A5.keep Kq8
    have O8 := O5.keep Kq8 (allS Gb5 all0)
    have K8 := K5.trans Kq8 (by intro x hx'; cases List.mem_singleton.mp hx'; exact Or.inr Jb5)
    show Gf p e below _ T8 m 38 #[vr t1, vi 0, vi 2, vr r2, vi 0] [(.ref b5)]
    exact Gl.retR X8 hx hlk hret rfl rfl (hb y d34_38) rfl (⟨_, _, rfl, ec11, Fv8, Or.inl ⟨Fc8, vc10, le2⟩, K8, N8⟩) (by decide) (by decide)
  · show Gf p e below _ T2 m 20 #[vr t1, vi 0, vi 2, vu, vu] [(.ref r2)]
    refine gs (fun _ k => XS.astoreN X2.here hx rfl (hb y d34_20) rfl rfl (l' := #[vr t1, vi 0, vi 2, vr r2, vu]) rfl (XS.aloadN X2.here hx rfl (hb y d34_21) rfl rfl (XS.iloadN X2.here hx rfl (hb y d34_22) rfl k))) ?_
    refine Gl.callS0 X2 hx hZ (y := my8) hown (w184 hw) (w26 hw) (w19 hw) (w27 hw) (desc_ne (by decide)) (argsL := [(.ref r2), (.int 2)]) (rest := []) (rmZ21 hw r2 kB _ Vq2) 0 (by decide) (by decide) rfl hml.symm pd_6 rfl rfl (Nat.le_of_eq rfl) (hb y d34_23) (by decide) (by decide) ?_
    intro v12 T12 X12 e12 hv12
    subst hv12
    show Gf p e below _ T12 m 26 #[vr t1, vi 0, vi 2, vr r2, vu] [(.int 1)]
    refine gs (fun _ k => XS.istore X12.here hx rfl (hb y d34_26) rfl (l' := #[vr t1, vi 0, vi 2, vr r2, vi 1]) rfl k) ?_
    obtain ⟨T13, h13, X13, e13, E13, A13, D13, -, st13⟩ := newO X12 hx hZ hown (w185 hw) (w3 hw) (w4 hw) e12 (g := (mkF m 28 #[vr t1, vi 0, vi 2, vr r2, vi 1] [])) rfl (hb y d34_28) (by decide) (by decide)
    obtain ⟨b13, g13⟩ : ∃ z, z = T2.heap.size := ⟨_, rfl⟩
    rw [← g13] at A13 D13 st13
    refine Gl.of st13 ?_
    have Gb13 : n0 ≤ b13 := Nat.le_trans (O2.1 ▸ O2.2.1) (Nat.le_of_eq g13.symm)
    have Jb13 : h0.size ≤ b13 := Nat.le_trans K2.1 (Nat.le_of_eq g13.symm)
    have ne_t1_b13 : t1 ≠ b13 := Nat.ne_of_lt (Nat.lt_of_lt_of_le vc3.lt (Nat.le_of_eq g13.symm))
    have ne_r2_b13 : r2 ≠ b13 := Nat.ne_of_lt (Nat.lt_of_lt_of_le Vq2.lt (Nat.le_of_eq g13.symm))
    have vc14 := vc3.ext E13
    have vc15 := Vq2.ext E13
    have O13 := O2.ext E13
    have K13 := K2.ext E13
    have F13_coder : Fld Z h13 b13 "java/lang/String" "coder" "B" (.int 0) := D13 (Or.inr (w29 hw)) (ty := .byte) (by decide)
    have F13_value : Fld Z h13 b13 "java/lang/String" "value" "[B" .null := D13 (Or.inr (w31 hw)) (ty := (.array .byte)) (by decide)
    show Gf p e below _ T13 m 31 #[vr t1, vi 0, vi 2, vr r2, vi 1] [(.ref b13)]
    refine gs (fun _ k => XS.dup X13.here hx rfl (hb y d34_31) rfl rfl (XS.aloadN X13.here hx rfl (hb y d34_32) rfl rfl (XS.iload X13.here hx rfl (hb y d34_33) rfl k))) ?_
    refine Gl.callI X13 hx hZ (y := my21) rfl hown (w186 hw) (w116 hw) (w4 hw) (w117 hw) (desc_ne (by decide)) (rm := ro 1 0 0 13) (b := b13) (argsL := [(.ref r2), (.int 1)]) (rest := [(.ref b13)]) (rmV1 hw b13 r2 n0 A13 F13_value F13_coder Gb13 O13) 1 (by decide) (by decide) (by decide) (by decide) e13 hml.symm pd_16 rfl rfl (Nat.le_of_eq rfl) (hb y d34_35) ?_
    intro v16 T16 L16 X16 hQ16
    obtain ⟨rfl, Nq16, Kq16, Fv16, Fc16⟩ := hQ16
    have N16 := Fr.app N2 Nq16
    have vc17 := vc14.keep Kq16 (fun q => ne_t1_b13 (List.mem_singleton.mp q))
    have vc18 := vc15.keep Kq16 (fun q => ne_r2_b13 (List.mem_singleton.mp q))
    have ec19 := A13.keep Kq16
    have O16 := O13.keep Kq16 (allS Gb13 all0)
    have K16 := K13.trans Kq16 (by intro x hx'; cases List.mem_singleton.mp hx'; exact Or.inr Jb13)
    show Gf p e below _ T16 m 38 #[vr t1, vi 0, vi 2, vr r2, vi 1] [(.ref b13)]
    exact Gl.retR X16 hx hlk hret rfl rfl (hb y d34_38) rfl (⟨_, _, rfl, ec19, Fv16, Or.inr ⟨Fc16, vc18⟩, K16, N16⟩) (by decide) (by decide)
theorem rmO43 {l : Launch} {Z : State} {a0 : Array Value} (hw : HW Z a0) {h0 : Heap} (t1 : Addr) (kB : ClassId) (c0 c1 c2 c3 : Int32) (n0 : Nat) (V1 : Arv Z h0 t1 kB .byte (4 : Int32) [.int (o8 c0), .int (o8 c1), .int (o8 c2), .int (o8 c3)] (.int 0)) (hfb : Z.vm.findClass "[B" = some kB) (hl0 : ¬ (255 : Int32) < c0) (hl1 : ¬ (255 : Int32) < c1) (hl2 : ¬ (255 : Int32) < c2) (O0 : Old Z n0 h0) : Con l Z my25 bc16 3 (some (.object "java/lang/String")) [] (ro 4 2 12 98) 2 12 #[(.ref t1), (.int 0), (.int 3)] h0 (fun v h L => ∃ x t, v = some (.ref x) ∧ xS Z h x ∧ fV Z h x t ∧ ((fC Z h x 0 ∧ Arv Z h t kB .byte (3 : Int32) [.int (o8 c0), .int (o8 c1), .int (o8 c2)] (.int 0) ∧ (¬ (255 : Int32) < c0 ∧ ¬ (255 : Int32) < c1 ∧ ¬ (255 : Int32) < c2)) ∨ (fC Z h x 1 ∧ Arv Z h t kB .byte (6 : Int32) [.int (oh c0), .int (ol c0), .int (oh c1), .int (ol c1), .int (oh c2), .int (ol c2)] (.int 0))) ∧ Keep h0 h [] ∧ Fr n0 L) := by
  refine Con.intro (plainFor_of_name pn_3) ?_
  intro p e s m below meth c s₁ X0 hx y hml hZ hown hnm hret hlk e0 hs0
  refine gs (fun _ k => castTop (ef_25 m t1 (0 : Int32) (3 : Int32)) k) ?_
  have K0 := Keep.refl h0 []
  show Gf p e below _ s₁ m 0 #[vr t1, vi 0, vi 3] []
  refine gs (fun _ k => XS.iloadN X0.here hx rfl (hb y d16_0) rfl (XS.ifYes X0.here hx rfl (pc0 := 1) (pc' := 7) rfl (hb y d16_1) rfl ((if0 _ _).trans (feq (by decide : ¬ ((3 : Int32) = (0 : Int32)))).2) (by decide) (by decide) k)) ?_
  obtain ⟨T1, h1, X1, e1, E1, A1, D1, -, st1⟩ := newO X0 hx hZ hown (w96 hw) (w3 hw) (w4 hw) e0 (g := (mkF m 7 #[vr t1, vi 0, vi 3] [])) rfl (hb y d16_7) (by decide) (by decide)
  obtain ⟨b1, g1⟩ : ∃ z, z = h0.size := ⟨_, rfl⟩
  rw [← g1] at A1 D1 st1
  refine Gl.of st1 ?_
  have Gb1 : n0 ≤ b1 := Nat.le_trans (O0.1 ▸ O0.2.1) (Nat.le_of_eq g1.symm)
  have Jb1 : h0.size ≤ b1 := Nat.le_trans K0.1 (Nat.le_of_eq g1.symm)
  have ne_t1_b1 : t1 ≠ b1 := Nat.ne_of_lt (Nat.lt_of_lt_of_le V1.lt (Nat.le_of_eq g1.symm))
  have vc2 := V1.ext E1
  have O1 := O0.ext E1
  have K1 := K0.ext E1
  have F1_coder : Fld Z h1 b1 "java/lang/String" "coder" "B" (.int 0) := D1 (Or.inr (w29 hw)) (ty := .byte) (by decide)
  have F1_value : Fld Z h1 b1 "java/lang/String" "value" "[B" .null := D1 (Or.inr (w31 hw)) (ty := (.array .byte)) (by decide)
  show Gf p e below _ T1 m 10 #[vr t1, vi 0, vi 3] [(.ref b1)]
  refine gs (fun _ k => XS.dup X1.here hx rfl (hb y d16_10) rfl rfl (XS.aloadN X1.here hx rfl (hb y d16_11) rfl rfl (XS.iloadN X1.here hx rfl (hb y d16_12) rfl (XS.iloadN X1.here hx rfl (hb y d16_13) rfl (XS.iloadN X1.here hx rfl (hb y d16_14) rfl (XS.iadd X1.here hx rfl (hb y d16_15) rfl k)))))) ?_
  show Gf p e below _ T1 m 16 #[vr t1, vi 0, vi 3] [(.int 3), (.int 0), (.ref t1), (.ref b1), (.ref b1)]
  refine Gl.callCor X1 hx hZ hown (w97 hw) (w98 hw) (w99 hw) (w100 hw) (own_cor hw) vc2 hfb (fr := 0) (to := 3) (cap := 8) rfl (by decide) (by decide) (by decide) (by decide) (by decide) (vs' := [.int (o8 c0), .int (o8 c1), .int (o8 c2)]) rfl (n := 3) rfl (by decide) (W := 2) (rest := [(.ref b1), (.ref b1)]) (by decide) (by decide) (by decide) (by decide) e1 rfl rfl hml.symm rfl (Nat.le_of_eq rfl) (hb y d16_16) ?_
  intro r3 T3 X3 E3 Sz3 Vr3
  have ne_t1_r3 : t1 ≠ r3 := Nat.ne_of_lt (Nat.lt_of_lt_of_le vc2.lt Sz3)
  have ne_b1_r3 : b1 ≠ r3 := Nat.ne_of_lt (Nat.lt_of_lt_of_le A1.lt Sz3)
  have Gr3 : n0 ≤ r3 := Nat.le_trans (O1.1 ▸ O1.2.1) Sz3
  have Jr3 : h0.size ≤ r3 := Nat.le_trans K1.1 Sz3
  have vc4 := vc2.ext E3
  have ec5 := A1.ext E3
  have fc6 := F1_coder.ext E3
  have fc7 := F1_value.ext E3
  have O3 := O1.ext E3
  have K3 := K1.ext E3
  show Gf p e below _ T3 m 19 #[vr t1, vi 0, vi 3] [(.ref r3), (.ref b1), (.ref b1)]
  refine gs (fun _ k => XS.iconst X3.here hx rfl (hb y d16_19) k) ?_
  refine Gl.callI X3 hx hZ (y := my21) rfl hown (w115 hw) (w116 hw) (w4 hw) (w117 hw) (desc_ne (by decide)) (rm := ro 1 0 0 13) (b := b1) (argsL := [(.ref r3), (.int 0)]) (rest := [(.ref b1)]) (rmV0 hw b1 r3 n0 ec5 fc7 fc6 Gb1 O3) 1 (by decide) (by decide) (by decide) (by decide) rfl hml.symm pd_16 rfl rfl (Nat.le_of_eq rfl) (hb y d16_20) ?_
  intro v8 T8 L8 X8 hQ8
  obtain ⟨rfl, Nq8, Kq8, Fv8, Fc8⟩ := hQ8
  have N8 := Fr.app (Fr.nil n0) Nq8
  have vc9 := vc4.keep Kq8 (fun q => ne_t1_b1 (List.mem_singleton.mp q))
  have ec10 := ec5.keep Kq8
  have vc11 := Vr3.keep Kq8 (fun q => ne_b1_r3.symm (List.mem_singleton.mp q))
  have O8 := O3.keep Kq8 (allS Gb1 all0)
  have K8 := K3.trans Kq8 (by intro x hx'; cases List.mem_singleton.mp hx'; exact Or.inr Jb1)
  show Gf p e below _ T8 m 23 #[vr t1, vi 0, vi 3] [(.ref b1)]
  exact Gl.retR X8 hx hlk hret rfl rfl (hb y d16_23) rfl (⟨_, _, rfl, ec10, Fv8, Or.inl ⟨Fc8, vc11, ⟨hl0, hl1, hl2⟩⟩, K8, N8⟩) (by decide) (by decide)
theorem rmS643 {l : Launch} {Z : State} {a0 : Array Value} (hw : HW Z a0) {h0 : Heap} (t1 a2 : Addr) (kB : ClassId) (c0 c1 c2 c3 : Int32) (fm : Value) (n0 : Nat) (V1 : Arv Z h0 t1 kB .byte (8 : Int32) [.int (oh c0), .int (ol c0), .int (oh c1), .int (ol c1), .int (oh c2), .int (ol c2), .int (oh c3), .int (ol c3)] (.int 0)) (V2 : Arv Z h0 a2 kB .byte (3 : Int32) [.int (0 : Int32), .int (0 : Int32), .int (0 : Int32)] (.int 0)) (hne : ¬ t1 = a2) (Ga2 : n0 ≤ a2) (hr0 : rg c0) (hr1 : rg c1) (hr2 : rg c2) (hr3 : rg c3) (SF : sSF Z fm) (rf : fm.isRef = true) (Sa : sSa Z) (Sh : sSh Z) (Sl : sSl Z) (O0 : Old Z n0 h0) : Con l Z my26 bc22 7 (some .int) [] (ro 3 0 0 44) 0 0 #[(.ref t1), (.int 0), (.ref a2), (.int 0), (.int 3)] h0 (fun v h L => ∃ r vs, v = some (.int r) ∧ Fr n0 L ∧ Keep h0 h [a2] ∧ Arv Z h a2 kB .byte (3 : Int32) vs (.int 0) ∧ ((r = (3 : Int32) ∧ vs = [.int (o8 c0), .int (o8 c1), .int (o8 c2)] ∧ (¬ (255 : Int32) < c0 ∧ ¬ (255 : Int32) < c1 ∧ ¬ (255 : Int32) < c2)) ∨ (r = (0 : Int32) ∧ (255 : Int32) < c0) ∨ (r = (1 : Int32) ∧ (255 : Int32) < c1) ∨ (r = (2 : Int32) ∧ (255 : Int32) < c2))) := by
  refine Con.intro (plainFor_of_name pn_0) ?_
  intro p e s m below meth c s₁ X0 hx y hml hZ hown hnm hret hlk e0 hs0
  refine gs (fun _ k => castTop (ef_26 m t1 (0 : Int32) a2 (0 : Int32) (3 : Int32)) k) ?_
  have K0 := Keep.refl h0 [a2]
  show Gf p e below _ s₁ m 0 #[vr t1, vi 0, vr a2, vi 0, vi 3, vu, vu] []
  refine gs (fun _ k => XS.iloadN X0.here hx rfl (hb y d36_0) rfl (XS.iload X0.here hx rfl (hb y d36_1) rfl (XS.aloadN X0.here hx rfl (hb y d36_3) rfl rfl k))) ?_
  refine Gl.callS0 X0 hx hZ (y := my24) hown (w174 hw) (w175 hw) (w19 hw) (w176 hw) (desc_ne (by decide)) (argsL := [(.int 0), (.int 3), (.ref t1)]) (rest := []) (rmS3 hw t1 (3 : Int32) (4 : Int32) fm n0 (rmX34 hw t1 kB _ V1) (by decide) (by decide) SF rf O0) 0 (by decide) (by decide) e0 hml.symm pd_17 rfl rfl (Nat.le_of_eq rfl) (hb y d36_4) (by decide) (by decide) ?_
  intro v1 T1 X1 e1 hv1
  subst hv1
  show Gf p e below _ T1 m 7 #[vr t1, vi 0, vr a2, vi 0, vi 3, vu, vu] []
  refine gs (fun _ k => XS.iconst X1.here hx rfl (hb y d36_7) (XS.istore X1.here hx rfl (hb y d36_8) rfl (l' := #[vr t1, vi 0, vr a2, vi 0, vi 3, vi 0, vu]) rfl (XS.iload X1.here hx rfl (hb y d36_10) rfl (XS.iload X1.here hx rfl (hb y d36_12) rfl (XS.icmpNo X1.here hx rfl (hb y d36_14) rfl (tlt (by decide : (0 : Int32) < (3 : Int32))).2.1 (XS.aloadN X1.here hx rfl (hb y d36_17) rfl rfl k)))))) ?_
  show Gf p e below _ T1 m 18 #[vr t1, vi 0, vr a2, vi 0, vi 3, vi 0, vu] [(.ref t1)]
  refine gs (fun _ k => XS.iloadN X1.here hx rfl (hb y d36_18) rfl k) ?_
  refine Gl.callS0 X1 hx hZ (y := my5) hown (w151 hw) (w152 hw) (w19 hw) (w153 hw) (desc_ne (by decide)) (argsL := [(.ref t1), (.int 0)]) (rest := []) (rmG40 hw t1 kB c0 c1 c2 c3 n0 V1 hr0 Sa Sh Sl O0) 0 (by decide) (by decide) e1 hml.symm pd_5 rfl rfl (Nat.le_of_eq rfl) (hb y d36_19) (by decide) (by decide) ?_
  intro v2 T2 X2 e2 hv2
  subst hv2
  show Gf p e below _ T2 m 22 #[vr t1, vi 0, vr a2, vi 0, vi 3, vi 0, vu] [(.int c0)]
  refine gs (fun _ k => XS.istore X2.here hx rfl (hb y d36_22) rfl (l' := #[vr t1, vi 0, vr a2, vi 0, vi 3, vi 0, vi c0]) rfl (XS.iload X2.here hx rfl (hb y d36_24) rfl (XS.sipush X2.here hx rfl (hb y d36_26) k))) ?_
  by_cases hc29_3 : (255 : Int32) < c0
  · refine Gl.of (fun _ kq_ => XS.icmpNo X2.here hx rfl (hb y d36_29) rfl (tlt hc29_3).2.2.2 kq_) ?_
    refine gs (fun _ k => XS.iload X2.here hx rfl (hb y d36_32) rfl k) ?_
    exact Gl.retI X2 hx hlk hret (hb y d36_34) e2 (⟨_, _, rfl, (Fr.nil n0), K0, V2, Or.inr (Or.inl ⟨rfl, hc29_3⟩)⟩) (by decide) (by decide)
  · refine Gl.of (fun _ kq_ => XS.icmpYes X2.here hx rfl (pc0 := 29) (pc' := 35) rfl (hb y d36_29) rfl (flt hc29_3).2.2.2 (by decide) (by decide) kq_) ?_
    refine gs (fun _ k => XS.aloadN X2.here hx rfl (hb y d36_35) rfl rfl (XS.iloadN X2.here hx rfl (hb y d36_36) rfl k)) ?_
    show Gf p e below _ T2 m 37 #[vr t1, vi 0, vr a2, vi 0, vi 3, vi 0, vi c0] [(.int 0), (.ref a2)]
    refine gs (fun _ k => XS.iload X2.here hx rfl (hb y d36_37) rfl (XS.i2b X2.here hx rfl (hb y d36_39) rfl k)) ?_
    obtain ⟨zcl4, zAr4, zq4, zS4, zM4, zH4, zG4⟩ := id V2
    obtain ⟨T5, h5, X5, e5, W5, st5⟩ := stB X2 hx hZ e2 zAr4 (j := (0 : Int32)) (inb_of zS4 ⟨by decide, by decide⟩) (g := (mkF m 40 #[vr t1, vi 0, vr a2, vi 0, vi 3, vi 0, vi c0] [(.int (c0.toInt8.toInt32)), (.int 0), (.ref a2)])) rfl rfl (hb y d36_40)
    refine Gl.of st5 ?_
    have V5 : Arv Z h5 a2 kB .byte (3 : Int32) [(.int (nar .byte (c0.toInt8.toInt32))), (.int 0), (.int 0)] (.int 0) := Arv.set zAr4 zq4 zS4 zM4 zH4 zG4 (fits_nar_byte _) W5 0 rfl (Nat.le_of_ble_eq_true rfl)
    have vc6 := V1.other W5 hne
    have N5 := Fr.snoc X5 (Fr.nil n0) Ga2
    have O5 := O0.wr W5 Ga2
    have K5 := K0.wr W5 (Or.inl (List.mem_of_getElem? (i := 0) rfl))
    show Gf p e below _ T5 m 41 #[vr t1, vi 0, vr a2, vi 0, vi 3, vi 0, vi c0] []
    refine gs (fun _ k => XS.iinc X5.here hx rfl (hb y d36_41) rfl (l' := #[vr t1, vi 1, vr a2, vi 0, vi 3, vi 0, vi c0]) rfl (XS.iinc X5.here hx rfl (hb y d36_44) rfl (l' := #[vr t1, vi 1, vr a2, vi 1, vi 3, vi 0, vi c0]) rfl (XS.iinc X5.here hx rfl (hb y d36_47) rfl (l' := #[vr t1, vi 1, vr a2, vi 1, vi 3, vi 1, vi c0]) rfl (XS.goto X5.here hx rfl (pc0 := 50) (pc' := 10) rfl (hb y d36_50) (by decide) (by decide) (XS.iload X5.here hx rfl (hb y d36_10) rfl (XS.iload X5.here hx rfl (hb y d36_12) rfl k)))))) ?_
    show Gf p e below _ T5 m 14 #[vr t1, vi 1, vr a2, vi 1, vi 3, vi 1, vi c0] [(.int 3), (.int 1)]
    refine gs (fun _ k => XS.icmpNo X5.here hx rfl (hb y d36_14) rfl (tlt (by decide : (1 : Int32) < (3 : Int32))).2.1 (XS.aloadN X5.here hx rfl (hb y d36_17) rfl rfl (XS.iloadN X5.here hx rfl (hb y d36_18) rfl k))) ?_
    refine Gl.callS0 X5 hx hZ (y := my5) hown (w151 hw) (w152 hw) (w19 hw) (w153 hw) (desc_ne (by decide)) (argsL := [(.ref t1), (.int 1)]) (rest := []) (rmG41 hw t1 kB c0 c1 c2 c3 n0 vc6 hr1 Sa Sh Sl O5) 0 (by decide) (by decide) e5 hml.symm pd_5 rfl rfl (Nat.le_of_eq rfl) (hb y d36_19) (by decide) (by decide) ?_
    intro v7 T7 X7 e7 hv7
    subst hv7
    show Gf p e below _ T7 m 22 #[vr t1, vi 1, vr a2, vi 1, vi 3, vi 1, vi c0] [(.int c1)]
    refine gs (fun _ k => XS.istore X7.here hx rfl (hb y d36_22) rfl (l' := #[vr t1, vi 1, vr a2, vi 1, vi 3, vi 1, vi c1]) rfl (XS.iload X7.here hx rfl (hb y d36_24) rfl (XS.sipush X7.here hx rfl (hb y d36_26) k))) ?_
    by_cases hc29_8 : (255 : Int32) < c1
    · refine Gl.of (fun _ kq_ => XS.icmpNo X7.here hx rfl (hb y d36_29) rfl (tlt hc29_8).2.2.2 kq_) ?_
      refine gs (fun _ k => XS.iload X7.here hx rfl (hb y d36_32) rfl k) ?_
      exact Gl.retI X7 hx hlk hret (hb y d36_34) e7 (⟨_, _, rfl, N5, K5, V5, Or.inr (Or.inr (Or.inl ⟨rfl, hc29_8⟩))⟩) (by decide) (by decide)
    · refine Gl.of (fun _ kq_ => XS.icmpYes X7.here hx rfl (pc0 := 29) (pc' := 35) rfl (hb y d36_29) rfl (flt hc29_8).2.2.2 (by decide) (by decide) kq_) ?_
      refine gs (fun _ k => XS.aloadN X7.here hx rfl (hb y d36_35) rfl rfl (XS.iloadN X7.here hx rfl (hb y d36_36) rfl k)) ?_
      show Gf p e below _ T7 m 37 #[vr t1, vi 1, vr a2, vi 1, vi 3, vi 1, vi c1] [(.int 1), (.ref a2)]
      refine gs (fun _ k => XS.iload X7.here hx rfl (hb y d36_37) rfl (XS.i2b X7.here hx rfl (hb y d36_39) rfl k)) ?_
      obtain ⟨zcl9, zAr9, zq9, zS9, zM9, zH9, zG9⟩ := id V5
      obtain ⟨T10, h10, X10, e10, W10, st10⟩ := stB X7 hx hZ e7 zAr9 (j := (1 : Int32)) (inb_of zS9 ⟨by decide, by decide⟩) (g := (mkF m 40 #[vr t1, vi 1, vr a2, vi 1, vi 3, vi 1, vi c1] [(.int (c1.toInt8.toInt32)), (.int 1), (.ref a2)])) rfl rfl (hb y d36_40)
      refine Gl.of st10 ?_
      have V10 : Arv Z h10 a2 kB .byte (3 : Int32) [(.int (nar .byte (c0.toInt8.toInt32))), (.int (nar .byte (c1.toInt8.toInt32))), (.int 0)] (.int 0) := Arv.set zAr9 zq9 zS9 zM9 zH9 zG9 (fits_nar_byte _) W10 1 rfl (Nat.le_of_ble_eq_true rfl)
      have vc11 := vc6.other W10 hne
      have N10 := Fr.snoc X10 N5 Ga2
      have O10 := O5.wr W10 Ga2
      have K10 := K5.wr W10 (Or.inl (List.mem_of_getElem? (i := 0) rfl))
      show Gf p e below _ T10 m 41 #[vr t1, vi 1, vr a2, vi 1, vi 3, vi 1, vi c1] []
      refine gs (fun _ k => XS.iinc X10.here hx rfl (hb y d36_41) rfl (l' := #[vr t1, vi 2, vr a2, vi 1, vi 3, vi 1, vi c1]) rfl (XS.iinc X10.here hx rfl (hb y d36_44) rfl (l' := #[vr t1, vi 2, vr a2, vi 2, vi 3, vi 1, vi c1]) rfl (XS.iinc X10.here hx rfl (hb y d36_47) rfl (l' := #[vr t1, vi 2, vr a2, vi 2, vi 3, vi 2, vi c1]) rfl (XS.goto X10.here hx rfl (pc0 := 50) (pc' := 10) rfl (hb y d36_50) (by decide) (by decide) (XS.iload X10.here hx rfl (hb y d36_10) rfl (XS.iload X10.here hx rfl (hb y d36_12) rfl k)))))) ?_
      show Gf p e below _ T10 m 14 #[vr t1, vi 2, vr a2, vi 2, vi 3, vi 2, vi c1] [(.int 3), (.int 2)]
      refine gs (fun _ k => XS.icmpNo X10.here hx rfl (hb y d36_14) rfl (tlt (by decide : (2 : Int32) < (3 : Int32))).2.1 (XS.aloadN X10.here hx rfl (hb y d36_17) rfl rfl (XS.iloadN X10.here hx rfl (hb y d36_18) rfl k))) ?_
      refine Gl.callS0 X10 hx hZ (y := my5) hown (w151 hw) (w152 hw) (w19 hw) (w153 hw) (desc_ne (by decide)) (argsL := [(.ref t1), (.int 2)]) (rest := []) (rmG42 hw t1 kB c0 c1 c2 c3 n0 vc11 hr2 Sa Sh Sl O10) 0 (by decide) (by decide) e10 hml.symm pd_5 rfl rfl (Nat.le_of_eq rfl) (hb y d36_19) (by decide) (by decide) ?_
      intro v12 T12 X12 e12 hv12
      subst hv12
      show Gf p e below _ T12 m 22 #[vr t1, vi 2, vr a2, vi 2, vi 3, vi 2, vi c1] [(.int c2)]
      refine gs (fun _ k => XS.istore X12.here hx rfl (hb y d36_22) rfl (l' := #[vr t1, vi 2, vr a2, vi 2, vi 3, vi 2, vi c2]) rfl (XS.iload X12.here hx rfl (hb y d36_24) rfl (XS.sipush X12.here hx rfl (hb y d36_26) k))) ?_
      by_cases hc29_13 : (255 : Int32) < c2
      · refine Gl.of (fun _ kq_ => XS.icmpNo X12.here hx rfl (hb y d36_29) rfl (tlt hc29_13).2.2.2 kq_) ?_
        refine gs (fun _ k => XS.iload X12.here hx rfl (hb y d36_32) rfl k) ?_
        exact Gl.retI X12 hx hlk hret (hb y d36_34) e12 (⟨_, _, rfl, N10, K10, V10, Or.inr (Or.inr (Or.inr (⟨rfl, hc29_13⟩)))⟩) (by decide) (by decide)
      · refine Gl.of (fun _ kq_ => XS.icmpYes X12.here hx rfl (pc0 := 29) (pc' := 35) rfl (hb y d36_29) rfl (flt hc29_13).2.2.2 (by decide) (by decide) kq_) ?_
        refine gs (fun _ k => XS.aloadN X12.here hx rfl (hb y d36_35) rfl rfl (XS.iloadN X12.here hx rfl (hb y d36_36) rfl k)) ?_
        show Gf p e below _ T12 m 37 #[vr t1, vi 2, vr a2, vi 2, vi 3, vi 2, vi c2] [(.int 2), (.ref a2)]
        refine gs (fun _ k => XS.iload X12.here hx rfl (hb y d36_37) rfl (XS.i2b X12.here hx rfl (hb y d36_39) rfl k)) ?_
        obtain ⟨zcl14, zAr14, zq14, zS14, zM14, zH14, zG14⟩ := id V10
        obtain ⟨T15, h15, X15, e15, W15, st15⟩ := stB X12 hx hZ e12 zAr14 (j := (2 : Int32)) (inb_of zS14 ⟨by decide, by decide⟩) (g := (mkF m 40 #[vr t1, vi 2, vr a2, vi 2, vi 3, vi 2, vi c2] [(.int (c2.toInt8.toInt32)), (.int 2), (.ref a2)])) rfl rfl (hb y d36_40)
        refine Gl.of st15 ?_
        have V15 : Arv Z h15 a2 kB .byte (3 : Int32) [(.int (nar .byte (c0.toInt8.toInt32))), (.int (nar .byte (c1.toInt8.toInt32))), (.int (nar .byte (c2.toInt8.toInt32)))] (.int 0) := Arv.set zAr14 zq14 zS14 zM14 zH14 zG14 (fits_nar_byte _) W15 2 rfl (Nat.le_of_ble_eq_true rfl)
        have vc16 := vc11.other W15 hne
        have N15 := Fr.snoc X15 N10 Ga2
        have O15 := O10.wr W15 Ga2
        have K15 := K10.wr W15 (Or.inl (List.mem_of_getElem? (i := 0) rfl))
        show Gf p e below _ T15 m 41 #[vr t1, vi 2, vr a2, vi 2, vi 3, vi 2, vi c2] []
        refine gs (fun _ k => XS.iinc X15.here hx rfl (hb y d36_41) rfl (l' := #[vr t1, vi 3, vr a2, vi 2, vi 3, vi 2, vi c2]) rfl (XS.iinc X15.here hx rfl (hb y d36_44) rfl (l' := #[vr t1, vi 3, vr a2, vi 3, vi 3, vi 2, vi c2]) rfl (XS.iinc X15.here hx rfl (hb y d36_47) rfl (l' := #[vr t1, vi 3, vr a2, vi 3, vi 3, vi 3, vi c2]) rfl (XS.goto X15.here hx rfl (pc0 := 50) (pc' := 10) rfl (hb y d36_50) (by decide) (by decide) (XS.iload X15.here hx rfl (hb y d36_10) rfl (XS.iload X15.here hx rfl (hb y d36_12) rfl k)))))) ?_
        show Gf p e below _ T15 m 14 #[vr t1, vi 3, vr a2, vi 3, vi 3, vi 3, vi c2] [(.int 3), (.int 3)]
        refine gs (fun _ k => XS.icmpYes X15.here hx rfl (pc0 := 14) (pc' := 53) rfl (hb y d36_14) rfl (flt (by decide : ¬ ((3 : Int32) < (3 : Int32)))).2.1 (by decide) (by decide) (XS.iload X15.here hx rfl (hb y d36_53) rfl k)) ?_
        exact Gl.retI X15 hx hlk hret (hb y d36_55) e15 (⟨_, _, rfl, N15, K15, V15, Or.inl ⟨rfl, rfl, hc29_3, hc29_8, hc29_13⟩⟩) (by decide) (by decide)
theorem rmS743 {l : Launch} {Z : State} {a0 : Array Value} (hw : HW Z a0) {h0 : Heap} (t1 : Addr) (kB : ClassId) (c0 c1 c2 c3 : Int32) (fm : Value) (n0 : Nat) (hfb : Z.vm.findClass "[B" = some kB) (V1 : Arv Z h0 t1 kB .byte (8 : Int32) [.int (oh c0), .int (ol c0), .int (oh c1), .int (ol c1), .int (oh c2), .int (ol c2), .int (oh c3), .int (ol c3)] (.int 0)) (hr0 : rg c0) (hr1 : rg c1) (hr2 : rg c2) (hr3 : rg c3) (SF : sSF Z fm) (rf : fm.isRef = true) (Sa : sSa Z) (Sh : sSh Z) (Sl : sSl Z) (O0 : Old Z n0 h0) : Con l Z my27 bc20 6 (some (.array .byte)) [] (ro 4 2 12 98) 2 12 #[(.ref t1), (.int 0), (.int 3)] h0 (fun v h L => ∃ r, v = some (.ref r) ∧ ((Arv Z h r kB .byte (3 : Int32) [.int (o8 c0), .int (o8 c1), .int (o8 c2)] (.int 0) ∧ (¬ (255 : Int32) < c0 ∧ ¬ (255 : Int32) < c1 ∧ ¬ (255 : Int32) < c2)) ∨ Arv Z h r kB .byte (6 : Int32) [.int (oh c0), .int (ol c0), .int (oh c1), .int (ol c1), .int (oh c2), .int (ol c2)] (.int 0)) ∧ Keep h0 h [] ∧ Fr n0 L ∧ n0 ≤ r ∧ h0.size ≤ r) := by
  refine Con.intro (plainFor_of_name pn_0) ?_
  intro p e s m below meth c s₁ X0 hx y hml hZ hown hnm hret hlk e0 hs0
  refine gs (fun _ k => castTop (ef_27 m t1 (0 : Int32) (3 : Int32)) k) ?_
  have K0 := Keep.refl h0 []
  show Gf p e below _ s₁ m 0 #[vr t1, vi 0, vi 3, vu, vu, vu] []
  refine gs (fun _ k => XS.iloadN X0.here hx rfl (hb y d35_0) rfl k) ?_
  obtain ⟨T1, h1, k1, X1, e1, E1, A1, Ex1, st1⟩ := newPE (aty := .byte) X0 hx hZ (w21 hw) e0 (g := (mkF m 1 #[vr t1, vi 0, vi 3, vu, vu, vu] [(.int 3)])) rfl (hb y d35_1) rfl (by decide) (cap := 3) (by decide) (by decide) (by decide) (by decide) (ad := "[B") rfl
  have kq1 := own_fbn A1 Ex1 hfb
  rw [kq1] at A1
  obtain ⟨b1, g1⟩ : ∃ z, z = h0.size := ⟨_, rfl⟩
  rw [← g1] at A1 st1
  refine Gl.of st1 ?_
  have Gb1 : n0 ≤ b1 := Nat.le_trans (O0.1 ▸ O0.2.1) (Nat.le_of_eq g1.symm)
  have Jb1 : h0.size ≤ b1 := Nat.le_trans K0.1 (Nat.le_of_eq g1.symm)
  have ne_t1_b1 : t1 ≠ b1 := Nat.ne_of_lt (Nat.lt_of_lt_of_le V1.lt (Nat.le_of_eq g1.symm))
  have vc2 := V1.ext E1
  have O1 := O0.ext E1
  have K1 := K0.ext E1
  have V1 : Arv Z h1 b1 kB .byte (3 : Int32) [(.int 0), (.int 0), (.int 0)] (.int 0) := (Arv.new A1 (by decide)).pad (pad_rep [] (.int 0) 3)
  show Gf p e below _ T1 m 3 #[vr t1, vi 0, vi 3, vu, vu, vu] [(.ref b1)]
  refine gs (fun _ k => XS.astoreN X1.here hx rfl (hb y d35_3) rfl rfl (l' := #[vr t1, vi 0, vi 3, vr b1, vu, vu]) rfl (XS.aloadN X1.here hx rfl (hb y d35_4) rfl rfl (XS.iloadN X1.here hx rfl (hb y d35_5) rfl (XS.aloadN X1.here hx rfl (hb y d35_6) rfl rfl (XS.iconst X1.here hx rfl (hb y d35_7) (XS.iloadN X1.here hx rfl (hb y d35_8) rfl k)))))) ?_
  show Gf p e below _ T1 m 9 #[vr t1, vi 0, vi 3, vr b1, vu, vu] [(.int 3), (.int 0), (.ref b1), (.int 0), (.ref t1)]
  refine Gl.callS X1 hx hZ (y := my26) hown (w171 hw) (w172 hw) (w19 hw) (w173 hw) (desc_ne (by decide)) (rm := ro 3 0 0 44) (argsL := [(.ref t1), (.int 0), (.ref b1), (.int 0), (.int 3)]) (rest := []) (rmS643 hw t1 b1 kB c0 c1 c2 c3 fm n0 vc2 V1 ne_t1_b1 Gb1 hr0 hr1 hr2 hr3 SF rf Sa Sh Sl O1) 0 (by decide) (by decide) (by decide) (by decide) e1 hml.symm pd_18 rfl rfl (Nat.le_of_eq rfl) (hb y d35_9) ?_
  intro v3 T3 L3 X3 hQ3
  obtain ⟨z3, vs3, rfl, Nq3, Kq3, Vq3, dj3⟩ := hQ3
  have N3 := Fr.app (Fr.nil n0) Nq3
  have vc4 := vc2.keep Kq3 (fun q => ne_t1_b1 (List.mem_singleton.mp q))
  have O3 := O1.keep Kq3 (allS Gb1 all0)
  have K3 := K1.trans Kq3 (by intro x hx'; cases List.mem_singleton.mp hx'; exact Or.inr Jb1)
  rcases dj3 with ⟨rfl, rfl, le3⟩ | ⟨rfl, hb3⟩ | ⟨rfl, hb3⟩ | ⟨rfl, hb3⟩
  · show Gf p e below _ T3 m 12 #[vr t1, vi 0, vi 3, vr b1, vu, vu] [(.int 3)]
    refine gs (fun _ k => XS.istore X3.here hx rfl (hb y d35_12) rfl (l' := #[vr t1, vi 0, vi 3, vr b1, vi 3, vu]) rfl (XS.iload X3.here hx rfl (hb y d35_14) rfl (XS.iloadN X3.here hx rfl (hb y d35_16) rfl (XS.icmpYes X3.here hx rfl (pc0 := 17) (pc' := 64) rfl (hb y d35_17) rfl (teq (by decide : (3 : Int32) = (3 : Int32))).1 (by decide) (by decide) (XS.aloadN X3.here hx rfl (hb y d35_64) rfl rfl k))))) ?_
    exact Gl.retR X3 hx hlk hret rfl rfl (hb y d35_65) rfl (⟨_, rfl, Or.inl ⟨Vq3, le3⟩, K3, N3, Gb1, Jb1⟩) (by decide) (by decide)
  · show Gf p e below _ T3 m 12 #[vr t1, vi 0, vi 3, vr b1, vu, vu] [(.int 0)]
    refine gs (fun _ k => XS.istore X3.here hx rfl (hb y d35_12) rfl (l' := #[vr t1, vi 0, vi 3, vr b1, vi 0, vu]) rfl (XS.iload X3.here hx rfl (hb y d35_14) rfl (XS.iloadN X3.here hx rfl (hb y d35_16) rfl (XS.icmpNo X3.here hx rfl (hb y d35_17) rfl (feq (by decide : ¬ ((0 : Int32) = (3 : Int32)))).1 (XS.aloadN X3.here hx rfl (hb y d35_20) rfl rfl (XS.iloadN X3.here hx rfl (hb y d35_21) rfl k)))))) ?_
    show Gf p e below _ T3 m 22 #[vr t1, vi 0, vi 3, vr b1, vi 0, vu] [(.int 0), (.ref t1)]
    refine gs (fun _ k => XS.iconst X3.here hx rfl (hb y d35_22) (XS.ishl X3.here hx rfl (hb y d35_23) rfl k)) ?_
    show Gf p e below _ T3 m 24 #[vr t1, vi 0, vi 3, vr b1, vi 0, vu] [(.int 0), (.ref t1)]
    refine gs (fun _ k => XS.iloadN X3.here hx rfl (hb y d35_24) rfl (XS.iloadN X3.here hx rfl (hb y d35_25) rfl (XS.iadd X3.here hx rfl (hb y d35_26) rfl k))) ?_
    show Gf p e below _ T3 m 27 #[vr t1, vi 0, vi 3, vr b1, vi 0, vu] [(.int 3), (.int 0), (.ref t1)]
    refine Gl.callS0 X3 hx hZ (y := my2) hown (w141 hw) (w142 hw) (w19 hw) (w143 hw) (desc_ne (by decide)) (argsL := [(.int 3)]) (rest := [(.int 0), (.ref t1)]) (rmL3 hw) 2 (by decide) (by decide) rfl hml.symm pd_0 rfl rfl (Nat.le_of_eq rfl) (hb y d35_27) (by decide) (by decide) ?_
    intro v5 T5 X5 e5 hv5
    subst hv5
    show Gf p e below _ T5 m 30 #[vr t1, vi 0, vi 3, vr b1, vi 0, vu] [(.int 6), (.int 0), (.ref t1)]
    refine Gl.callCor X5 hx hZ hown (w183 hw) (w98 hw) (w99 hw) (w100 hw) (own_cor hw) vc4 hfb (fr := 0) (to := 6) (cap := 8) rfl (by decide) (by decide) (by decide) (by decide) (by decide) (vs' := [.int (oh c0), .int (ol c0), .int (oh c1), .int (ol c1), .int (oh c2), .int (ol c2)]) rfl (n := 6) rfl (by decide) (W := 0) (rest := []) (by decide) (by decide) (by decide) (by decide) e5 rfl rfl hml.symm rfl (Nat.le_of_eq rfl) (hb y d35_30) ?_
    intro r6 T6 X6 E6 Sz6 Vr6
    have ne_t1_r6 : t1 ≠ r6 := Nat.ne_of_lt (Nat.lt_of_lt_of_le vc4.lt Sz6)
    have ne_b1_r6 : b1 ≠ r6 := Nat.ne_of_lt (Nat.lt_of_lt_of_le Vq3.lt Sz6)
    have Gr6 : n0 ≤ r6 := Nat.le_trans (O3.1 ▸ O3.2.1) Sz6
    have Jr6 : h0.size ≤ r6 := Nat.le_trans K3.1 Sz6
    have vc7 := vc4.ext E6
    have vc8 := Vq3.ext E6
    have O6 := O3.ext E6
    have K6 := K3.ext E6
    show Gf p e below _ T6 m 33 #[vr t1, vi 0, vi 3, vr b1, vi 0, vu] [(.ref r6)]
    refine gs (fun _ k => XS.astore X6.here hx rfl (hb y d35_33) rfl rfl (l' := #[vr t1, vi 0, vi 3, vr b1, vi 0, vr r6]) rfl (XS.aload X6.here hx rfl (hb y d35_35) rfl rfl (XS.iload X6.here hx rfl (hb y d35_37) rfl k))) ?_
    refine Gl.callS0 X6 hx hZ (y := my5) hown (w151 hw) (w152 hw) (w19 hw) (w153 hw) (desc_ne (by decide)) (argsL := [(.ref r6), (.int 0)]) (rest := []) (rmG30 hw r6 kB c0 c1 c2 n0 Vr6 hr0 Sa Sh Sl O6) 0 (by decide) (by decide) rfl hml.symm pd_5 rfl rfl (Nat.le_of_eq rfl) (hb y d35_39) (by decide) (by decide) ?_
    intro v9 T9 X9 e9 hv9
    subst hv9
    show Gf p e below _ T9 m 42 #[vr t1, vi 0, vi 3, vr b1, vi 0, vr r6] [(.int c0)]
    refine gs (fun _ k => XS.sipush X9.here hx rfl (hb y d35_42) (XS.icmpYes X9.here hx rfl (pc0 := 45) (pc' := 61) rfl (hb y d35_45) rfl (tlt hb3).2.2.1 (by decide) (by decide) (XS.aload X9.here hx rfl (hb y d35_61) rfl rfl k))) ?_
    exact Gl.retR X9 hx hlk hret rfl rfl (hb y d35_63) e9 (⟨_, rfl, Or.inr Vr6, K6, N3, Gr6, Jr6⟩) (by decide) (by decide)
  · show Gf p e below _ T3 m 12 #[vr t1, vi 0, vi 3, vr b1, vu, vu] [(.int 1)]
    refine gs (fun _ k => XS.istore X3.here hx rfl (hb y d35_12) rfl (l' := #[vr t1, vi 0, vi 3, vr b1, vi 1, vu]) rfl (XS.iload X3.here hx rfl (hb y d35_14) rfl (XS.iloadN X3.here hx rfl (hb y d35_16) rfl (XS.icmpNo X3.here hx rfl (hb y d35_17) rfl (feq (by decide : ¬ ((1 : Int32) = (3 : Int32)))).1 (XS.aloadN X3.here hx rfl (hb y d35_20) rfl rfl (XS.iloadN X3.here hx rfl (hb y d35_21) rfl k)))))) ?_
    show Gf p e below _ T3 m 22 #[vr t1, vi 0, vi 3, vr b1, vi 1, vu] [(.int 0), (.ref t1)]
    refine gs (fun _ k => XS.iconst X3.here hx rfl (hb y d35_22) (XS.ishl X3.here hx rfl (hb y d35_23) rfl k)) ?_
    show Gf p e below _ T3 m 24 #[vr t1, vi 0, vi 3, vr b1, vi 1, vu] [(.int 0), (.ref t1)]
    refine gs (fun _ k => XS.iloadN X3.here hx rfl (hb y d35_24) rfl (XS.iloadN X3.here hx rfl (hb y d35_25) rfl (XS.iadd X3.here hx rfl (hb y d35_26) rfl k))) ?_
    show Gf p e below _ T3 m 27 #[vr t1, vi 0, vi 3, vr b1, vi 1, vu] [(.int 3), (.int 0), (.ref t1)]
    refine Gl.callS0 X3 hx hZ (y := my2) hown (w141 hw) (w142 hw) (w19 hw) (w143 hw) (desc_ne (by decide)) (argsL := [(.int 3)]) (rest := [(.int 0), (.ref t1)]) (rmL3 hw) 2 (by decide) (by decide) rfl hml.symm pd_0 rfl rfl (Nat.le_of_eq rfl) (hb y d35_27) (by decide) (by decide) ?_
    intro v10 T10 X10 e10 hv10
    subst hv10
    show Gf p e below _ T10 m 30 #[vr t1, vi 0, vi 3, vr b1, vi 1, vu] [(.int 6), (.int 0), (.ref t1)]
    refine Gl.callCor X10 hx hZ hown (w183 hw) (w98 hw) (w99 hw) (w100 hw) (own_cor hw) vc4 hfb (fr := 0) (to := 6) (cap := 8) rfl (by decide) (by decide) (by decide) (by decide) (by decide) (vs' := [.int (oh c0), .int (ol c0), .int (oh c1), .int (ol c1), .int (oh c2), .int (ol c2)]) rfl (n := 6) rfl (by decide) (W := 0) (rest := []) (by decide) (by decide) (by decide) (by decide) e10 rfl rfl hml.symm rfl (Nat.le_of_eq rfl) (hb y d35_30) ?_
    intro r11 T11 X11 E11 Sz11 Vr11
    have ne_t1_r11 : t1 ≠ r11 := Nat.ne_of_lt (Nat.lt_of_lt_of_le vc4.lt Sz11)
    have ne_b1_r11 : b1 ≠ r11 := Nat.ne_of_lt (Nat.lt_of_lt_of_le Vq3.lt Sz11)
    have Gr11 : n0 ≤ r11 := Nat.le_trans (O3.1 ▸ O3.2.1) Sz11
    have Jr11 : h0.size ≤ r11 := Nat.le_trans K3.1 Sz11
    have vc12 := vc4.ext E11
    have vc13 := Vq3.ext E11
    have O11 := O3.ext E11
    have K11 := K3.ext E11
    show Gf p e below _ T11 m 33 #[vr t1, vi 0, vi 3, vr b1, vi 1, vu] [(.ref r11)]
    refine gs (fun _ k => XS.astore X11.here hx rfl (hb y d35_33) rfl rfl (l' := #[vr t1, vi 0, vi 3, vr b1, vi 1, vr r11]) rfl (XS.aload X11.here hx rfl (hb y d35_35) rfl rfl (XS.iload X11.here hx rfl (hb y d35_37) rfl k))) ?_
    refine Gl.callS0 X11 hx hZ (y := my5) hown (w151 hw) (w152 hw) (w19 hw) (w153 hw) (desc_ne (by decide)) (argsL := [(.ref r11), (.int 1)]) (rest := []) (rmG31 hw r11 kB c0 c1 c2 n0 Vr11 hr1 Sa Sh Sl O11) 0 (by decide) (by decide) rfl hml.symm pd_5 rfl rfl (Nat.le_of_eq rfl) (hb y d35_39) (by decide) (by decide) ?_
    intro v14 T14 X14 e14 hv14
    subst hv14
    show Gf p e below _ T14 m 42 #[vr t1, vi 0, vi 3, vr b1, vi 1, vr r11] [(.int c1)]
    refine gs (fun _ k => XS.sipush X14.here hx rfl (hb y d35_42) (XS.icmpYes X14.here hx rfl (pc0 := 45) (pc' := 61) rfl (hb y d35_45) rfl (tlt hb3).2.2.1 (by decide) (by decide) (XS.aload X14.here hx rfl (hb y d35_61) rfl rfl k))) ?_
    exact Gl.retR X14 hx hlk hret rfl rfl (hb y d35_63) e14 (⟨_, rfl, Or.inr Vr11, K11, N3, Gr11, Jr11⟩) (by decide) (by decide)
  · show Gf p e below _ T3 m 12 #[vr t1, vi 0, vi 3, vr b1, vu, vu] [(.int 2)]
    refine gs (fun _ k => XS.istore X3.here hx rfl (hb y d35_12) rfl (l' := #[vr t1, vi 0, vi 3, vr b1, vi 2, vu]) rfl (XS.iload X3.here hx rfl (hb y d35_14) rfl (XS.iloadN X3.here hx rfl (hb y d35_16) rfl (XS.icmpNo X3.here hx rfl (hb y d35_17) rfl (feq (by decide : ¬ ((2 : Int32) = (3 : Int32)))).1 (XS.aloadN X3.here hx rfl (hb y d35_20) rfl rfl (XS.iloadN X3.here hx rfl (hb y d35_21) rfl k)))))) ?_
    show Gf p e below _ T3 m 22 #[vr t1, vi 0, vi 3, vr b1, vi 2, vu] [(.int 0), (.ref t1)]
    refine gs (fun _ k => XS.iconst X3.here hx rfl (hb y d35_22) (XS.ishl X3.here hx rfl (hb y d35_23) rfl k)) ?_
    show Gf p e below _ T3 m 24 #[vr t1, vi 0, vi 3, vr b1, vi 2, vu] [(.int 0), (.ref t1)]
    refine gs (fun _ k => XS.iloadN X3.here hx rfl (hb y d35_24) rfl (XS.iloadN X3.here hx rfl (hb y d35_25) rfl (XS.iadd X3.here hx rfl (hb y d35_26) rfl k))) ?_
    show Gf p e below _ T3 m 27 #[vr t1, vi 0, vi 3, vr b1, vi 2, vu] [(.int 3), (.int 0), (.ref t1)]
    refine Gl.callS0 X3 hx hZ (y := my2) hown (w141 hw) (w142 hw) (w19 hw) (w143 hw) (desc_ne (by decide)) (argsL := [(.int 3)]) (rest := [(.int 0), (.ref t1)]) (rmL3 hw) 2 (by decide) (by decide) rfl hml.symm pd_0 rfl rfl (Nat.le_of_eq rfl) (hb y d35_27) (by decide) (by decide) ?_
    intro v15 T15 X15 e15 hv15
    subst hv15
    show Gf p e below _ T15 m 30 #[vr t1, vi 0, vi 3, vr b1, vi 2, vu] [(.int 6), (.int 0), (.ref t1)]
    refine Gl.callCor X15 hx hZ hown (w183 hw) (w98 hw) (w99 hw) (w100 hw) (own_cor hw) vc4 hfb (fr := 0) (to := 6) (cap := 8) rfl (by decide) (by decide) (by decide) (by decide) (by decide) (vs' := [.int (oh c0), .int (ol c0), .int (oh c1), .int (ol c1), .int (oh c2), .int (ol c2)]) rfl (n := 6) rfl (by decide) (W := 0) (rest := []) (by decide) (by decide) (by decide) (by decide) e15 rfl rfl hml.symm rfl (Nat.le_of_eq rfl) (hb y d35_30) ?_
    intro r16 T16 X16 E16 Sz16 Vr16
    have ne_t1_r16 : t1 ≠ r16 := Nat.ne_of_lt (Nat.lt_of_lt_of_le vc4.lt Sz16)
    have ne_b1_r16 : b1 ≠ r16 := Nat.ne_of_lt (Nat.lt_of_lt_of_le Vq3.lt Sz16)
    have Gr16 : n0 ≤ r16 := Nat.le_trans (O3.1 ▸ O3.2.1) Sz16
    have Jr16 : h0.size ≤ r16 := Nat.le_trans K3.1 Sz16
    have vc17 := vc4.ext E16
    have vc18 := Vq3.ext E16
    have O16 := O3.ext E16
    have K16 := K3.ext E16
    show Gf p e below _ T16 m 33 #[vr t1, vi 0, vi 3, vr b1, vi 2, vu] [(.ref r16)]
    refine gs (fun _ k => XS.astore X16.here hx rfl (hb y d35_33) rfl rfl (l' := #[vr t1, vi 0, vi 3, vr b1, vi 2, vr r16]) rfl (XS.aload X16.here hx rfl (hb y d35_35) rfl rfl (XS.iload X16.here hx rfl (hb y d35_37) rfl k))) ?_
    refine Gl.callS0 X16 hx hZ (y := my5) hown (w151 hw) (w152 hw) (w19 hw) (w153 hw) (desc_ne (by decide)) (argsL := [(.ref r16), (.int 2)]) (rest := []) (rmG32 hw r16 kB c0 c1 c2 n0 Vr16 hr2 Sa Sh Sl O16) 0 (by decide) (by decide) rfl hml.symm pd_5 rfl rfl (Nat.le_of_eq rfl) (hb y d35_39) (by decide) (by decide) ?_
    intro v19 T19 X19 e19 hv19
    subst hv19
    show Gf p e below _ T19 m 42 #[vr t1, vi 0, vi 3, vr b1, vi 2, vr r16] [(.int c2)]
    refine gs (fun _ k => XS.sipush X19.here hx rfl (hb y d35_42) (XS.icmpYes X19.here hx rfl (pc0 := 45) (pc' := 61) rfl (hb y d35_45) rfl (tlt hb3).2.2.1 (by decide) (by decide) (XS.aload X19.here hx rfl (hb y d35_61) rfl rfl k))) ?_
    exact Gl.retR X19 hx hlk hret rfl rfl (hb y d35_63) e19 (⟨_, rfl, Or.inr Vr16, K16, N3, Gr16, Jr16⟩) (by decide) (by decide)
theorem rmS843 {l : Launch} {Z : State} {a0 : Array Value} (hw : HW Z a0) {h0 : Heap} (t1 : Addr) (kB : ClassId) (c0 c1 c2 c3 : Int32) (cz : Int32) (fm : Value) (n0 : Nat) (hfb : Z.vm.findClass "[B" = some kB) (V1 : Arv Z h0 t1 kB .byte (8 : Int32) [.int (oh c0), .int (ol c0), .int (oh c1), .int (ol c1), .int (oh c2), .int (ol c2), .int (oh c3), .int (ol c3)] (.int 0)) (hr0 : rg c0) (hr1 : rg c1) (hr2 : rg c2) (hr3 : rg c3) (SC : sSC Z cz) (hcz : ¬ cz = 0) (SF : sSF Z fm) (rf : fm.isRef = true) (Sa : sSa Z) (Sh : sSh Z) (Sl : sSl Z) (O0 : Old Z n0 h0) : Con l Z my28 bc27 5 (some (.object "java/lang/String")) [] (ro 5 3 20 118) 3 20 #[(.ref t1), (.int 0), (.int 3)] h0 (fun v h L => ∃ x t, v = some (.ref x) ∧ xS Z h x ∧ fV Z h x t ∧ ((fC Z h x 0 ∧ Arv Z h t kB .byte (3 : Int32) [.int (o8 c0), .int (o8 c1), .int (o8 c2)] (.int 0) ∧ (¬ (255 : Int32) < c0 ∧ ¬ (255 : Int32) < c1 ∧ ¬ (255 : Int32) < c2)) ∨ (fC Z h x 1 ∧ Arv Z h t kB .byte (6 : Int32) [.int (oh c0), .int (ol c0), .int (oh c1), .int (ol c1), .int (oh c2), .int (ol c2)] (.int 0))) ∧ Keep h0 h [] ∧ Fr n0 L) := by
  refine Con.intro (plainFor_of_name pn_0) ?_
  intro p e s m below meth c s₁ X0 hx y hml hZ hown hnm hret hlk e0 hs0
  refine gs (fun _ k => castTop (ef_28 m t1 (0 : Int32) (3 : Int32)) k) ?_
  have K0 := Keep.refl h0 []
  show Gf p e below _ s₁ m 0 #[vr t1, vi 0, vi 3, vu, vu] []
  refine gs (fun _ k => XS.iloadN X0.here hx rfl (hb y d34_0) rfl (XS.ifYes X0.here hx rfl (pc0 := 1) (pc' := 8) rfl (hb y d34_1) rfl ((if0 _ _).trans (feq (by decide : ¬ ((3 : Int32) = (0 : Int32)))).2) (by decide) (by decide) k)) ?_
  obtain ⟨T1, X1, e1, st1⟩ := getS2 X0 hx hZ hown (host := "") (Or.inl (w167 hw)) Via.refl e0 (SC.ext O0.2) (g := (mkF m 8 #[vr t1, vi 0, vi 3, vu, vu] [])) rfl (hb y d34_8)
  refine Gl.of st1 ?_
  show Gf p e below _ T1 m 11 #[vr t1, vi 0, vi 3, vu, vu] [(.int cz)]
  refine gs (fun _ k => XS.ifNo X1.here hx rfl (hb y d34_11) rfl ((if0 _ _).trans (feq hcz).1) (XS.aloadN X1.here hx rfl (hb y d34_14) rfl rfl (XS.iloadN X1.here hx rfl (hb y d34_15) rfl (XS.iloadN X1.here hx rfl (hb y d34_16) rfl k)))) ?_
  refine Gl.callS X1 hx hZ (y := my27) hown (w168 hw) (w169 hw) (w19 hw) (w170 hw) (desc_ne (by decide)) (rm := ro 4 2 12 98) (argsL := [(.ref t1), (.int 0), (.int 3)]) (rest := []) (rmS743 hw t1 kB c0 c1 c2 c3 fm n0 hfb V1 hr0 hr1 hr2 hr3 SF rf Sa Sh Sl O0) 0 (by decide) (by decide) (by decide) (by decide) e1 hml.symm pd_19 rfl rfl (Nat.le_of_eq rfl) (hb y d34_17) ?_
  intro v2 T2 L2 X2 hQ2
  obtain ⟨r2, rfl, dj2, Kq2, Nq2, Gr2, H2⟩ := hQ2
  have N2 := Fr.app (Fr.nil n0) Nq2
  have ne_t1_r2 : t1 ≠ r2 := Nat.ne_of_lt (Nat.lt_of_lt_of_le V1.lt H2)
  have Jr2 : h0.size ≤ r2 := Nat.le_trans K0.1 H2
  have vc3 := V1.keep Kq2 (by simp)
  have O2 := O0.keep Kq2 all0
  have K2 := K0.trans Kq2 (by intro x hx'; exact nomatch hx')
  rcases dj2 with ⟨Vq2, le2⟩ | Vq2
  · show Gf p e below _ T2 m 20 #[vr t1, vi 0, vi 3, vu, vu] [(.ref r2)]
    refine gs (fun _ k => XS.astoreN X2.here hx rfl (hb y d34_20) rfl rfl (l' := #[vr t1, vi 0, vi 3, vr r2, vu]) rfl (XS.aloadN X2.here hx rfl (hb y d34_21) rfl rfl (XS.iloadN X2.here hx rfl (hb y d34_22) rfl k))) ?_
    refine Gl.callS0 X2 hx hZ (y := my8) hown (w184 hw) (w26 hw) (w19 hw) (w27 hw) (desc_ne (by decide)) (argsL := [(.ref r2), (.int 3)]) (rest := []) (rmZ30 hw r2 kB _ Vq2) 0 (by decide) (by decide) rfl hml.symm pd_6 rfl rfl (Nat.le_of_eq rfl) (hb y d34_23) (by decide) (by decide) ?_
    intro v4 T4 X4 e4 hv4
    subst hv4
    show Gf p e below _ T4 m 26 #[vr t1, vi 0, vi 3, vr r2, vu] [(.int 0)]
    refine gs (fun _ k => XS.istore X4.here hx rfl (hb y d34_26) rfl (l' := #[vr t1, vi 0, vi 3, vr r2, vi 0]) rfl k) ?_
    obtain ⟨T5, h5, X5, e5, E5, A5, D5, -, st5⟩ := newO X4 hx hZ hown (w185 hw) (w3 hw) (w4 hw) e4 (g := (mkF m 28 #[vr t1, vi 0, vi 3, vr r2, vi 0] [])) rfl (hb y d34_28) (by decide) (by decide)
    obtain ⟨b5, g5⟩ : ∃ z, z = T2.heap.size := ⟨_, rfl⟩
    rw [← g5] at A5 D5 st5
    refine Gl.of st5 ?_
    have Gb5 : n0 ≤ b5 := Nat.le_trans (O2.1 ▸ O2.2.1) (Nat.le_of_eq g5.symm)
    have Jb5 : h0.size ≤ b5 := Nat.le_trans K2.1 (Nat.le_of_eq g5.symm)
    have ne_t1_b5 : t1 ≠ b5 := Nat.ne_of_lt (Nat.lt_of_lt_of_le vc3.lt (Nat.le_of_eq g5.symm))
    have ne_r2_b5 : r2 ≠ b5 := Nat.ne_of_lt (Nat.lt_of_lt_of_le Vq2.lt (Nat.le_of_eq g5.symm))
    have vc6 := vc3.ext E5
    have vc7 := Vq2.ext E5
    have O5 := O2.ext E5
    have K5 := K2.ext E5
    have F5_coder : Fld Z h5 b5 "java/lang/String" "coder" "B" (.int 0) := D5 (Or.inr (w29 hw)) (ty := .byte) (by decide)
    have F5_value : Fld Z h5 b5 "java/lang/String" "value" "[B" .null := D5 (Or.inr (w31 hw)) (ty := (.array .byte)) (by decide)
    show Gf p e below _ T5 m 31 #[vr t1, vi 0, vi 3, vr r2, vi 0] [(.ref b5)]
    refine gs (fun _ k => XS.dup X5.here hx rfl (hb y d34_31) rfl rfl (XS.aloadN X5.here hx rfl (hb y d34_32) rfl rfl (XS.iload X5.here hx rfl (hb y d34_33) rfl k))) ?_
    refine Gl.callI X5 hx hZ (y := my21) rfl hown (w186 hw) (w116 hw) (w4 hw) (w117 hw) (desc_ne (by decide)) (rm := ro 1 0 0 13) (b := b5) (argsL := [(.ref r2), (.int 0)]) (rest := [(.ref b5)]) (rmV0 hw b5 r2 n0 A5 F5_value F5_coder Gb5 O5) 1 (by decide) (by decide) (by decide) (by decide) e5 hml.symm pd_16 rfl rfl (Nat.le_of_eq rfl) (hb y d34_35) ?_
    intro v8 T8 L8 X8 hQ8
    obtain ⟨rfl, Nq8, Kq8, Fv8, Fc8⟩ := hQ8
    have N8 := Fr.app N2 Nq8
    have vc9 := vc6.keep Kq8 (fun q => ne_t1_b5 (List.mem_singleton.mp q))
    have vc10 := vc7.keep Kq8 (fun q => ne_r2_b5 (List.mem_singleton.mp q))
    have ec11 := A5.keep Kq8
    have O8 := O5.keep Kq8 (allS Gb5 all0)
    have K8 := K5.trans Kq8 (by intro x hx'; cases List.mem_singleton.mp hx'; exact Or.inr Jb5)
    show Gf p e below _ T8 m 38 #[vr t1, vi 0, vi 3, vr r2, vi 0] [(.ref b5)]
    exact Gl.retR X8 hx hlk hret rfl rfl (hb y d34_38) rfl (⟨_, _, rfl, ec11, Fv8, Or.inl ⟨Fc8, vc10, le2⟩, K8, N8⟩) (by decide) (by decide)
  · show Gf p e below _ T2 m 20 #[vr t1, vi 0, vi 3, vu, vu] [(.ref r2)]
    refine gs (fun _ k => XS.astoreN X2.here hx rfl (hb y d34_20) rfl rfl (l' := #[vr t1, vi 0, vi 3, vr r2, vu]) rfl (XS.aloadN X2.here hx rfl (hb y d34_21) rfl rfl (XS.iloadN X2.here hx rfl (hb y d34_22) rfl k))) ?_
    refine Gl.callS0 X2 hx hZ (y := my8) hown (w184 hw) (w26 hw) (w19 hw) (w27 hw) (desc_ne (by decide)) (argsL := [(.ref r2), (.int 3)]) (rest := []) (rmZ31 hw r2 kB _ Vq2) 0 (by decide) (by decide) rfl hml.symm pd_6 rfl rfl (Nat.le_of_eq rfl) (hb y d34_23) (by decide) (by decide) ?_
    intro v12 T12 X12 e12 hv12
    subst hv12
    show Gf p e below _ T12 m 26 #[vr t1, vi 0, vi 3, vr r2, vu] [(.int 1)]
    refine gs (fun _ k => XS.istore X12.here hx rfl (hb y d34_26) rfl (l' := #[vr t1, vi 0, vi 3, vr r2, vi 1]) rfl k) ?_
    obtain ⟨T13, h13, X13, e13, E13, A13, D13, -, st13⟩ := newO X12 hx hZ hown (w185 hw) (w3 hw) (w4 hw) e12 (g := (mkF m 28 #[vr t1, vi 0, vi 3, vr r2, vi 1] [])) rfl (hb y d34_28) (by decide) (by decide)
    obtain ⟨b13, g13⟩ : ∃ z, z = T2.heap.size := ⟨_, rfl⟩
    rw [← g13] at A13 D13 st13
    refine Gl.of st13 ?_
    have Gb13 : n0 ≤ b13 := Nat.le_trans (O2.1 ▸ O2.2.1) (Nat.le_of_eq g13.symm)
    have Jb13 : h0.size ≤ b13 := Nat.le_trans K2.1 (Nat.le_of_eq g13.symm)
    have ne_t1_b13 : t1 ≠ b13 := Nat.ne_of_lt (Nat.lt_of_lt_of_le vc3.lt (Nat.le_of_eq g13.symm))
    have ne_r2_b13 : r2 ≠ b13 := Nat.ne_of_lt (Nat.lt_of_lt_of_le Vq2.lt (Nat.le_of_eq g13.symm))
    have vc14 := vc3.ext E13
    have vc15 := Vq2.ext E13
    have O13 := O2.ext E13
    have K13 := K2.ext E13
    have F13_coder : Fld Z h13 b13 "java/lang/String" "coder" "B" (.int 0) := D13 (Or.inr (w29 hw)) (ty := .byte) (by decide)
    have F13_value : Fld Z h13 b13 "java/lang/String" "value" "[B" .null := D13 (Or.inr (w31 hw)) (ty := (.array .byte)) (by decide)
    show Gf p e below _ T13 m 31 #[vr t1, vi 0, vi 3, vr r2, vi 1] [(.ref b13)]
    refine gs (fun _ k => XS.dup X13.here hx rfl (hb y d34_31) rfl rfl (XS.aloadN X13.here hx rfl (hb y d34_32) rfl rfl (XS.iload X13.here hx rfl (hb y d34_33) rfl k))) ?_
    refine Gl.callI X13 hx hZ (y := my21) rfl hown (w186 hw) (w116 hw) (w4 hw) (w117 hw) (desc_ne (by decide)) (rm := ro 1 0 0 13) (b := b13) (argsL := [(.ref r2), (.int 1)]) (rest := [(.ref b13)]) (rmV1 hw b13 r2 n0 A13 F13_value F13_coder Gb13 O13) 1 (by decide) (by decide) (by decide) (by decide) e13 hml.symm pd_16 rfl rfl (Nat.le_of_eq rfl) (hb y d34_35) ?_
    intro v16 T16 L16 X16 hQ16
    obtain ⟨rfl, Nq16, Kq16, Fv16, Fc16⟩ := hQ16
    have N16 := Fr.app N2 Nq16
    have vc17 := vc14.keep Kq16 (fun q => ne_t1_b13 (List.mem_singleton.mp q))
    have vc18 := vc15.keep Kq16 (fun q => ne_r2_b13 (List.mem_singleton.mp q))
    have ec19 := A13.keep Kq16
    have O16 := O13.keep Kq16 (allS Gb13 all0)
    have K16 := K13.trans Kq16 (by intro x hx'; cases List.mem_singleton.mp hx'; exact Or.inr Jb13)
    show Gf p e below _ T16 m 38 #[vr t1, vi 0, vi 3, vr r2, vi 1] [(.ref b13)]
    exact Gl.retR X16 hx hlk hret rfl rfl (hb y d34_38) rfl (⟨_, _, rfl, ec19, Fv16, Or.inr ⟨Fc16, vc18⟩, K16, N16⟩) (by decide) (by decide)
theorem ef_29 (m : MethodId) (x0 : Int32) (x1 : Int32) (x2 : Int32) (x3 : Value) (hx3 : x3.isRef = true) : entryFrame m #[(.int x0), (.int x1), (.int x2), x3] 4 = mkF m 0 #[vi x0, vi x1, vi x2, .val x3] [] := by rcases ref_cases hx3 with rfl | ⟨_, rfl⟩ <;> (first | (simp [entryFrame, mkF, argsToLocals, Value.category, maxLocals]; done) | rfl)
theorem d14_0 : decode bc2 0 = .ok (.iload_n 0, 1) := by decide +kernel
theorem d14_1 : decode bc2 1 = .ok (.ifCond .lt 13, 3) := by decide +kernel
theorem d14_4 : decode bc2 4 = .ok (.iload_n 0, 1) := by decide +kernel
theorem d14_5 : decode bc2 5 = .ok (.iload_n 1, 1) := by decide +kernel
theorem d14_6 : decode bc2 6 = .ok (.if_icmp .gt 8, 3) := by decide +kernel
theorem d14_9 : decode bc2 9 = .ok (.iload_n 1, 1) := by decide +kernel
theorem d14_10 : decode bc2 10 = .ok (.iload_n 2, 1) := by decide +kernel
theorem d14_11 : decode bc2 11 = .ok (.if_icmp .le 11, 3) := by decide +kernel
theorem d14_22 : decode bc2 22 = .ok (.iload_n 0, 1) := by decide +kernel
theorem d14_23 : decode bc2 23 = .ok (.ireturn, 1) := by decide +kernel
theorem rmT1 {l : Launch} {Z : State} {a0 : Array Value} (hw : HW Z a0) {h0 : Heap} (p1 p2 p3 : Int32) (w4 : Value) (r4 : w4.isRef = true) (h1 : ¬ p1 < (0 : Int32)) (h2 : ¬ p2 < p1) (h3 : ¬ p3 < p2) : Con l Z my29 bc2 4 (some .int) [] (ro 0 0 0 0) 0 0 #[(.int p1), (.int p2), (.int p3), w4] h0 (Pur (fun v => v = some (.int p1)) h0) := by
  refine Con.intro (plainFor_of_name pn_2) ?_
  intro p e s m below meth c s₁ X0 hx y hml hZ hown hnm hret hlk e0 hs0
  refine gs (fun _ k => castTop (ef_29 m p1 p2 p3 w4 r4) k) ?_
  show Gf p e below _ s₁ m 0 #[vi p1, vi p2, vi p3, .val w4] []
  refine gs (fun _ k => XS.iloadN X0.here hx rfl (hb y d14_0) rfl (XS.ifNo X0.here hx rfl (hb y d14_1) rfl ((if0 _ _).trans (flt h1).1) (XS.iloadN X0.here hx rfl (hb y d14_4) rfl (XS.iloadN X0.here hx rfl (hb y d14_5) rfl (XS.icmpNo X0.here hx rfl (hb y d14_6) rfl (flt h2).2.2.1 (XS.iloadN X0.here hx rfl (hb y d14_9) rfl k)))))) ?_
  show Gf p e below _ s₁ m 10 #[vi p1, vi p2, vi p3, .val w4] [(.int p2)]
  refine gs (fun _ k => XS.iloadN X0.here hx rfl (hb y d14_10) rfl (XS.icmpYes X0.here hx rfl (pc0 := 11) (pc' := 22) rfl (hb y d14_11) rfl (flt h3).2.2.2 (by decide) (by decide) (XS.iloadN X0.here hx rfl (hb y d14_22) rfl k))) ?_
  exact Gl.retI X0 hx hlk hret (hb y d14_23) e0 (⟨rfl, rfl, rfl⟩) (by decide) (by decide)
theorem ef_30 (m : MethodId) (x0 : Int32) (x1 : Int32) (x2 : Int32) : entryFrame m #[(.int x0), (.int x1), (.int x2)] 3 = mkF m 0 #[vi x0, vi x1, vi x2] [] := by first | (simp [entryFrame, mkF, argsToLocals, Value.category, maxLocals]; done) | rfl
theorem d13_0 : decode bc10 0 = .ok (.iload_n 0, 1) := by decide +kernel
theorem d13_1 : decode bc10 1 = .ok (.iload_n 1, 1) := by decide +kernel
theorem d13_2 : decode bc10 2 = .ok (.iload_n 2, 1) := by decide +kernel
theorem d13_3 : decode bc10 3 = .ok (.getstatic 1053, 3) := by decide +kernel
theorem d13_6 : decode bc10 6 = .ok (.invokestatic 1062, 3) := by decide +kernel
theorem w84 (hw : HW Z a0) : (Jvm.Cond.methodLink "java/lang/String" (1062 : Nat) ⟨"jdk/internal/util/Preconditions", "checkFromToIndex", "(IIILjava/util/function/BiFunction;)I"⟩).before a0 Z = true := hw _ (wm 84 rfl)
theorem w85 (hw : HW Z a0) : (Jvm.Cond.static ⟨"jdk/internal/util/Preconditions", "checkFromToIndex", "(IIILjava/util/function/BiFunction;)I"⟩).before a0 Z = true := hw _ (wm 85 rfl)
theorem w86 (hw : HW Z a0) : (Jvm.Cond.code ⟨"jdk/internal/util/Preconditions", "checkFromToIndex", "(IIILjava/util/function/BiFunction;)I"⟩ bc2 (4 : Nat) (Option.some Jvm.ClassFile.FieldType.int)).before a0 Z = true := hw _ (wm 86 rfl)
theorem d13_9 : decode bc10 9 = .ok (.pop, 1) := by decide +kernel
theorem d13_10 : decode bc10 10 = .ok (.return_, 1) := by decide +kernel
theorem rmT2 {l : Launch} {Z : State} {a0 : Array Value} (hw : HW Z a0) {h0 : Heap} (p1 p2 p3 : Int32) (fm : Value) (n0 : Nat) (SF : sSF Z fm) (rf : fm.isRef = true) (h1 : ¬ p1 < (0 : Int32)) (h2 : ¬ p2 < p1) (h3 : ¬ p3 < p2) (O0 : Old Z n0 h0) : Con l Z my30 bc10 3 none [] (ro 1 0 0 15) 0 0 #[(.int p1), (.int p2), (.int p3)] h0 (Pur (fun v => v = none) h0) := by
  refine Con.intro (plainFor_of_name pn_1) ?_
  intro p e s m below meth c s₁ X0 hx y hml hZ hown hnm hret hlk e0 hs0
  refine gs (fun _ k => castTop (ef_30 m p1 p2 p3) k) ?_
  show Gf p e below _ s₁ m 0 #[vi p1, vi p2, vi p3] []
  refine gs (fun _ k => XS.iloadN X0.here hx rfl (hb y d13_0) rfl (XS.iloadN X0.here hx rfl (hb y d13_1) rfl (XS.iloadN X0.here hx rfl (hb y d13_2) rfl k))) ?_
  obtain ⟨T1, X1, e1, st1⟩ := getS2 X0 hx hZ hown (host := "") (Or.inl (w82 hw)) Via.refl e0 (SF.ext O0.2) (g := (mkF m 3 #[vi p1, vi p2, vi p3] [(.int p3), (.int p2), (.int p1)])) rfl (hb y d13_3)
  refine Gl.of st1 ?_
  show Gf p e below _ T1 m 6 #[vi p1, vi p2, vi p3] [fm, (.int p3), (.int p2), (.int p1)]
  refine Gl.callS0 X1 hx hZ (y := my29) hown (w84 hw) (w85 hw) (w83 hw) (w86 hw) (desc_ne (by decide)) (argsL := [(.int p1), (.int p2), (.int p3), fm]) (rest := []) (rmT1 hw p1 p2 p3 fm rf h1 h2 h3) 0 (by decide) (by decide) e1 hml.symm pd_14 rfl rfl (Nat.le_of_eq rfl) (hb y d13_6) (by decide) (by decide) ?_
  intro v2 T2 X2 e2 hv2
  subst hv2
  show Gf p e below _ T2 m 9 #[vi p1, vi p2, vi p3] [(.int p1)]
  refine gs (fun _ k => XS.pop X2.here hx rfl (hb y d13_9) rfl rfl k) ?_
  exact Gl.ret0 X2 hx hlk hret (hb y d13_10) e2 (⟨rfl, rfl, rfl⟩) (by decide) (by decide)
theorem ef_31 (m : MethodId) (x0 : Addr) (x1 : Int32) (x2 : Int32) : entryFrame m #[(.ref x0), (.int x1), (.int x2)] 5 = mkF m 0 #[vr x0, vi x1, vi x2, vu, vu] [] := by first | (simp [entryFrame, mkF, argsToLocals, Value.category, maxLocals]; done) | rfl
theorem d10_0 : decode bc14 0 = .ok (.aload_n 0, 1) := by decide +kernel
theorem d10_1 : decode bc14 1 = .ok (.invokevirtual 505, 3) := by decide +kernel
theorem pd_20 : parseMethodDescriptor "()I" = some ⟨[], some .int⟩ := by decide +kernel
theorem w72 (hw : HW Z a0) : (Jvm.Cond.selects "java/lang/String" ⟨"java/lang/String", "length", "()I"⟩ ⟨"java/lang/String", "length", "()I"⟩).before a0 Z = true := hw _ (wm 72 rfl)
theorem w69 (hw : HW Z a0) : (Jvm.Cond.methodLink "java/lang/String" (505 : Nat) ⟨"java/lang/String", "length", "()I"⟩).before a0 Z = true := hw _ (wm 69 rfl)
theorem w70 (hw : HW Z a0) : (Jvm.Cond.declares ⟨"java/lang/String", "length", "()I"⟩).before a0 Z = true := hw _ (wm 70 rfl)
theorem w71 (hw : HW Z a0) : (Jvm.Cond.instanceMethod ⟨"java/lang/String", "length", "()I"⟩).before a0 Z = true := hw _ (wm 71 rfl)
theorem w73 (hw : HW Z a0) : (Jvm.Cond.code ⟨"java/lang/String", "length", "()I"⟩ bc12 (1 : Nat) (Option.some Jvm.ClassFile.FieldType.int)).before a0 Z = true := hw _ (wm 73 rfl)
theorem d10_4 : decode bc14 4 = .ok (.istore_n 3, 1) := by decide +kernel
theorem d10_5 : decode bc14 5 = .ok (.iload_n 1, 1) := by decide +kernel
theorem d10_6 : decode bc14 6 = .ok (.iload_n 2, 1) := by decide +kernel
theorem d10_7 : decode bc14 7 = .ok (.iload_n 3, 1) := by decide +kernel
theorem d10_8 : decode bc14 8 = .ok (.invokestatic 521, 3) := by decide +kernel
theorem pd_21 : parseMethodDescriptor "(III)V" = some ⟨[.int, .int, .int], none⟩ := by decide +kernel
theorem w79 (hw : HW Z a0) : (Jvm.Cond.methodLink "java/lang/String" (521 : Nat) ⟨"java/lang/String", "checkBoundsBeginEnd", "(III)V"⟩).before a0 Z = true := hw _ (wm 79 rfl)
theorem w80 (hw : HW Z a0) : (Jvm.Cond.static ⟨"java/lang/String", "checkBoundsBeginEnd", "(III)V"⟩).before a0 Z = true := hw _ (wm 80 rfl)
theorem w81 (hw : HW Z a0) : (Jvm.Cond.code ⟨"java/lang/String", "checkBoundsBeginEnd", "(III)V"⟩ bc10 (3 : Nat) (Option.none : Option Jvm.ClassFile.FieldType)).before a0 Z = true := hw _ (wm 81 rfl)
theorem d10_11 : decode bc14 11 = .ok (.iload_n 1, 1) := by decide +kernel
theorem d10_12 : decode bc14 12 = .ok (.ifCond .ne 10, 3) := by decide +kernel
theorem d10_15 : decode bc14 15 = .ok (.iload_n 2, 1) := by decide +kernel
theorem d10_16 : decode bc14 16 = .ok (.iload_n 3, 1) := by decide +kernel
theorem d10_17 : decode bc14 17 = .ok (.if_icmp .ne 5, 3) := by decide +kernel
theorem d10_20 : decode bc14 20 = .ok (.aload_n 0, 1) := by decide +kernel
theorem d10_21 : decode bc14 21 = .ok (.areturn, 1) := by decide +kernel
theorem rmTP {l : Launch} {Z : State} {a0 : Array Value} (hw : HW Z a0) {h0 : Heap} (x1 : Addr) (nn : Int32) (fm : Value) (n0 : Nat) (E1 : xS Z h0 x1) (hN : Con l Z my16 bc12 1 (some .int) [] (ro 1 0 0 13) 0 0 #[(.ref x1)] h0 (Pur (fun v => v = some (.int nn)) h0)) (hnn : ¬ nn < (0 : Int32)) (SF : sSF Z fm) (rf : fm.isRef = true) (O0 : Old Z n0 h0) : Con l Z my31 bc14 5 (some (.object "java/lang/String")) [] (ro 6 0 0 134) 0 0 #[(.ref x1), (.int 0), (.int nn)] h0 (Pur (fun v => v = some (.ref x1)) h0) := by
  refine Con.intro (plainFor_of_name pn_1) ?_
  intro p e s m below meth c s₁ X0 hx y hml hZ hown hnm hret hlk e0 hs0
  refine gs (fun _ k => castTop (ef_31 m x1 (0 : Int32) nn) k) ?_
  show Gf p e below _ s₁ m 0 #[vr x1, vi 0, vi nn, vu, vu] []
  refine gs (fun _ k => XS.aloadN X0.here hx rfl (hb y d10_0) rfl rfl k) ?_
  refine Gl.callV0 X0 hx hZ (y := my16) (z := my16) hown (w69 hw) (w70 hw) (notFace_of_selects (args := #[]) (mvT hZ (w72 hw))) (w72 hw) (w71 hw) (w73 hw) (w4 hw) (desc_ne (by decide)) (b := x1) (argsL := []) (rest := []) E1 (hN) 0 (by decide) (by decide) e0 hml.symm pd_20 rfl rfl (Nat.le_of_eq rfl) (hb y d10_1) (by decide) (by decide) ?_
  intro v1 T1 X1 e1 hv1
  subst hv1
  show Gf p e below _ T1 m 4 #[vr x1, vi 0, vi nn, vu, vu] [(.int nn)]
  refine gs (fun _ k => XS.istoreN X1.here hx rfl (hb y d10_4) rfl (l' := #[vr x1, vi 0, vi nn, vi nn, vu]) rfl (XS.iloadN X1.here hx rfl (hb y d10_5) rfl (XS.iloadN X1.here hx rfl (hb y d10_6) rfl (XS.iloadN X1.here hx rfl (hb y d10_7) rfl k)))) ?_
  refine Gl.callS0 X1 hx hZ (y := my30) hown (w79 hw) (w80 hw) (w4 hw) (w81 hw) (desc_ne (by decide)) (argsL := [(.int 0), (.int nn), (.int nn)]) (rest := []) (rmT2 hw (0 : Int32) nn nn fm n0 SF rf (by decide) hnn Int32.lt_irrefl O0) 0 (by decide) (by decide) e1 hml.symm pd_21 rfl rfl (Nat.le_of_eq rfl) (hb y d10_8) (by decide) (by decide) ?_
  intro v2 T2 X2 e2 hv2
  subst hv2
  show Gf p e below _ T2 m 11 #[vr x1, vi 0, vi nn, vi nn, vu] []
  refine gs (fun _ k => XS.iloadN X2.here hx rfl (hb y d10_11) rfl (XS.ifNo X2.here hx rfl (hb y d10_12) rfl ((if0 _ _).trans (teq (by decide : (0 : Int32) = (0 : Int32))).2) (XS.iloadN X2.here hx rfl (hb y d10_15) rfl (XS.iloadN X2.here hx rfl (hb y d10_16) rfl (XS.icmpNo X2.here hx rfl (hb y d10_17) rfl (teq (rfl : nn = nn)).2 (XS.aloadN X2.here hx rfl (hb y d10_20) rfl rfl k)))))) ?_
  show Gf p e below _ T2 m 21 #[vr x1, vi 0, vi nn, vi nn, vu] [(.ref x1)]
  exact Gl.retR X2 hx hlk hret rfl rfl (hb y d10_21) e2 (⟨rfl, rfl, rfl⟩) (by decide) (by decide)
theorem d10_22 : decode bc14 22 = .ok (.iload_n 2, 1) := by decide +kernel
theorem d10_23 : decode bc14 23 = .ok (.iload_n 1, 1) := by decide +kernel
theorem d10_24 : decode bc14 24 = .ok (.isub, 1) := by decide +kernel
theorem d10_25 : decode bc14 25 = .ok (.istore 4, 2) := by decide +kernel
theorem d10_27 : decode bc14 27 = .ok (.aload_n 0, 1) := by decide +kernel
theorem d10_28 : decode bc14 28 = .ok (.invokevirtual 492, 3) := by decide +kernel
theorem d10_31 : decode bc14 31 = .ok (.ifCond .eq 16, 3) := by decide +kernel
theorem d10_34 : decode bc14 34 = .ok (.aload_n 0, 1) := by decide +kernel
theorem d10_35 : decode bc14 35 = .ok (.getfield 9, 3) := by decide +kernel
theorem d10_38 : decode bc14 38 = .ok (.iload_n 1, 1) := by decide +kernel
theorem d10_39 : decode bc14 39 = .ok (.iload 4, 2) := by decide +kernel
theorem d10_41 : decode bc14 41 = .ok (.invokestatic 685, 3) := by decide +kernel
theorem pd_22 : parseMethodDescriptor "([BII)Ljava/lang/String;" = some ⟨[(.array .byte), .int, .int], some (.object "java/lang/String")⟩ := by decide +kernel
theorem w92 (hw : HW Z a0) : (Jvm.Cond.methodLink "java/lang/String" (685 : Nat) ⟨"java/lang/StringLatin1", "newString", "([BII)Ljava/lang/String;"⟩).before a0 Z = true := hw _ (wm 92 rfl)
theorem w93 (hw : HW Z a0) : (Jvm.Cond.static ⟨"java/lang/StringLatin1", "newString", "([BII)Ljava/lang/String;"⟩).before a0 Z = true := hw _ (wm 93 rfl)
theorem w95 (hw : HW Z a0) : (Jvm.Cond.code ⟨"java/lang/StringLatin1", "newString", "([BII)Ljava/lang/String;"⟩ bc16 (3 : Nat) (Option.some (Jvm.ClassFile.FieldType.object "java/lang/String"))).before a0 Z = true := hw _ (wm 95 rfl)
theorem d10_44 : decode bc14 44 = .ok (.goto 13, 3) := by decide +kernel
theorem d10_57 : decode bc14 57 = .ok (.areturn, 1) := by decide +kernel
theorem rmTG0 {l : Launch} {Z : State} {a0 : Array Value} (hw : HW Z a0) {h0 : Heap} (Q : Option Value → Heap → List Loc → Prop) (x1 t1 : Addr) (ss nn cz : Int32) (fm : Value) (n0 : Nat) (hv : ∀ v h L, Q v h L → ∃ r, v = some (.ref r)) (E1 : xS Z h0 x1) (Fv : fV Z h0 x1 t1) (Fc : fC Z h0 x1 0) (hN : Con l Z my16 bc12 1 (some .int) [] (ro 1 0 0 13) 0 0 #[(.ref x1)] h0 (Pur (fun v => v = some (.int nn)) h0)) (h2 : ¬ ss < (0 : Int32)) (h3 : ¬ nn < ss) (h4 : ¬ ss = nn) (hS : Con l Z my25 bc16 3 (some (.object "java/lang/String")) [] (ro 4 2 12 98) 2 12 #[(.ref t1), (.int 0), (.int ss)] h0 (Q)) (SC : sSC Z cz) (hcz : ¬ cz = 0) (SF : sSF Z fm) (rf : fm.isRef = true) (O0 : Old Z n0 h0) : Con l Z my31 bc14 5 (some (.object "java/lang/String")) [] (ro 6 3 20 134) 3 20 #[(.ref x1), (.int 0), (.int ss)] h0 (Q) := by
  refine Con.intro (plainFor_of_name pn_1) ?_
  intro p e s m below meth c s₁ X0 hx y hml hZ hown hnm hret hlk e0 hs0
  refine gs (fun _ k => castTop (ef_31 m x1 (0 : Int32) ss) k) ?_
  show Gf p e below _ s₁ m 0 #[vr x1, vi 0, vi ss, vu, vu] []
  refine gs (fun _ k => XS.aloadN X0.here hx rfl (hb y d10_0) rfl rfl k) ?_
  refine Gl.callV0 X0 hx hZ (y := my16) (z := my16) hown (w69 hw) (w70 hw) (notFace_of_selects (args := #[]) (mvT hZ (w72 hw))) (w72 hw) (w71 hw) (w73 hw) (w4 hw) (desc_ne (by decide)) (b := x1) (argsL := []) (rest := []) E1 (hN) 0 (by decide) (by decide) e0 hml.symm pd_20 rfl rfl (Nat.le_of_eq rfl) (hb y d10_1) (by decide) (by decide) ?_
  intro v1 T1 X1 e1 hv1
  subst hv1
  show Gf p e below _ T1 m 4 #[vr x1, vi 0, vi ss, vu, vu] [(.int nn)]
  refine gs (fun _ k => XS.istoreN X1.here hx rfl (hb y d10_4) rfl (l' := #[vr x1, vi 0, vi ss, vi nn, vu]) rfl (XS.iloadN X1.here hx rfl (hb y d10_5) rfl (XS.iloadN X1.here hx rfl (hb y d10_6) rfl (XS.iloadN X1.here hx rfl (hb y d10_7) rfl k)))) ?_
  refine Gl.callS0 X1 hx hZ (y := my30) hown (w79 hw) (w80 hw) (w4 hw) (w81 hw) (desc_ne (by decide)) (argsL := [(.int 0), (.int ss), (.int nn)]) (rest := []) (rmT2 hw (0 : Int32) ss nn fm n0 SF rf (by decide) h2 h3 O0) 0 (by decide) (by decide) e1 hml.symm pd_21 rfl rfl (Nat.le_of_eq rfl) (hb y d10_8) (by decide) (by decide) ?_
  intro v2 T2 X2 e2 hv2
  subst hv2
  show Gf p e below _ T2 m 11 #[vr x1, vi 0, vi ss, vi nn, vu] []
  refine gs (fun _ k => XS.iloadN X2.here hx rfl (hb y d10_11) rfl (XS.ifNo X2.here hx rfl (hb y d10_12) rfl ((if0 _ _).trans (teq (by decide : (0 : Int32) = (0 : Int32))).2) (XS.iloadN X2.here hx rfl (hb y d10_15) rfl (XS.iloadN X2.here hx rfl (hb y d10_16) rfl (XS.icmpYes X2.here hx rfl (pc0 := 17) (pc' := 22) rfl (hb y d10_17) rfl (feq h4).2 (by decide) (by decide) (XS.iloadN X2.here hx rfl (hb y d10_22) rfl k)))))) ?_
  show Gf p e below _ T2 m 23 #[vr x1, vi 0, vi ss, vi nn, vu] [(.int ss)]
  refine gs (fun _ k => XS.iloadN X2.here hx rfl (hb y d10_23) rfl (XS.isub X2.here hx rfl (hb y d10_24) rfl k)) ?_
  show Gf p e below _ T2 m 25 #[vr x1, vi 0, vi ss, vi nn, vu] [(.int (ss - (0 : Int32)))]
  rw [show (ss - (0 : Int32)) = ss from Int32.sub_zero _]
  refine gs (fun _ k => XS.istore X2.here hx rfl (hb y d10_25) rfl (l' := #[vr x1, vi 0, vi ss, vi nn, vi ss]) rfl (XS.aloadN X2.here hx rfl (hb y d10_27) rfl rfl k)) ?_
  refine Gl.callV0 X2 hx hZ (y := my12) (z := my12) hown (w87 hw) (w88 hw) (notFace_of_selects (args := #[]) (mvT hZ (w90 hw))) (w90 hw) (w89 hw) (w91 hw) (w4 hw) (desc_ne (by decide)) (b := x1) (argsL := []) (rest := []) E1 (rmQ0 hw x1 cz n0 Fc SC hcz O0) 0 (by decide) (by decide) e2 hml.symm pd_13 rfl rfl (Nat.le_of_eq rfl) (hb y d10_28) (by decide) (by decide) ?_
  intro v3 T3 X3 e3 hv3
  subst hv3
  show Gf p e below _ T3 m 31 #[vr x1, vi 0, vi ss, vi nn, vi ss] [(.int 1)]
  refine gs (fun _ k => XS.ifNo X3.here hx rfl (hb y d10_31) rfl ((if0 _ _).trans (feq (by decide : ¬ ((1 : Int32) = (0 : Int32)))).1) (XS.aloadN X3.here hx rfl (hb y d10_34) rfl rfl k)) ?_
  obtain ⟨T4, X4, e4, st4⟩ := getF X3 hx hZ hown (host := "") (Or.inl (w30 hw)) Via.refl e3 Fv (g := (mkF m 35 #[vr x1, vi 0, vi ss, vi nn, vi ss] [(.ref x1)])) rfl rfl (hb y d10_35)
  refine Gl.of st4 ?_
  show Gf p e below _ T4 m 38 #[vr x1, vi 0, vi ss, vi nn, vi ss] [(.ref t1)]
  refine gs (fun _ k => XS.iloadN X4.here hx rfl (hb y d10_38) rfl (XS.iload X4.here hx rfl (hb y d10_39) rfl k)) ?_
  refine Gl.callS X4 hx hZ (y := my25) hown (w92 hw) (w93 hw) (w94 hw) (w95 hw) (desc_ne (by decide)) (rm := ro 4 2 12 98) (argsL := [(.ref t1), (.int 0), (.int ss)]) (rest := []) (hS) 0 (by decide) (by decide) (by decide) (by decide) e4 hml.symm pd_22 rfl rfl (Nat.le_of_eq rfl) (hb y d10_41) ?_
  intro v5 T5 L5 X5 hQ5
  obtain ⟨r5, rfl⟩ := hv _ _ _ hQ5
  show Gf p e below _ T5 m 44 #[vr x1, vi 0, vi ss, vi nn, vi ss] [(.ref r5)]
  refine gs (fun _ k => XS.goto X5.here hx rfl (pc0 := 44) (pc' := 57) rfl (hb y d10_44) (by decide) (by decide) k) ?_
  exact Gl.retR X5 hx hlk hret rfl rfl (hb y d10_57) rfl (hQ5) (by decide) (by decide)
theorem d10_47 : decode bc14 47 = .ok (.aload_n 0, 1) := by decide +kernel
theorem d10_48 : decode bc14 48 = .ok (.getfield 9, 3) := by decide +kernel
theorem d10_51 : decode bc14 51 = .ok (.iload_n 1, 1) := by decide +kernel
theorem d10_52 : decode bc14 52 = .ok (.iload 4, 2) := by decide +kernel
theorem d10_54 : decode bc14 54 = .ok (.invokestatic 689, 3) := by decide +kernel
theorem w164 (hw : HW Z a0) : (Jvm.Cond.methodLink "java/lang/String" (689 : Nat) ⟨"java/lang/StringUTF16", "newString", "([BII)Ljava/lang/String;"⟩).before a0 Z = true := hw _ (wm 164 rfl)
theorem w165 (hw : HW Z a0) : (Jvm.Cond.static ⟨"java/lang/StringUTF16", "newString", "([BII)Ljava/lang/String;"⟩).before a0 Z = true := hw _ (wm 165 rfl)
theorem w166 (hw : HW Z a0) : (Jvm.Cond.code ⟨"java/lang/StringUTF16", "newString", "([BII)Ljava/lang/String;"⟩ bc27 (5 : Nat) (Option.some (Jvm.ClassFile.FieldType.object "java/lang/String"))).before a0 Z = true := hw _ (wm 166 rfl)
theorem rmTG1 {l : Launch} {Z : State} {a0 : Array Value} (hw : HW Z a0) {h0 : Heap} (Q : Option Value → Heap → List Loc → Prop) (x1 t1 : Addr) (ss nn cz : Int32) (fm : Value) (n0 : Nat) (hv : ∀ v h L, Q v h L → ∃ r, v = some (.ref r)) (E1 : xS Z h0 x1) (Fv : fV Z h0 x1 t1) (Fc : fC Z h0 x1 1) (hN : Con l Z my16 bc12 1 (some .int) [] (ro 1 0 0 13) 0 0 #[(.ref x1)] h0 (Pur (fun v => v = some (.int nn)) h0)) (h2 : ¬ ss < (0 : Int32)) (h3 : ¬ nn < ss) (h4 : ¬ ss = nn) (hS : Con l Z my28 bc27 5 (some (.object "java/lang/String")) [] (ro 5 3 20 118) 3 20 #[(.ref t1), (.int 0), (.int ss)] h0 (Q)) (SC : sSC Z cz) (hcz : ¬ cz = 0) (SF : sSF Z fm) (rf : fm.isRef = true) (O0 : Old Z n0 h0) : Con l Z my31 bc14 5 (some (.object "java/lang/String")) [] (ro 6 3 20 134) 3 20 #[(.ref x1), (.int 0), (.int ss)] h0 (Q) := by
  refine Con.intro (plainFor_of_name pn_1) ?_
  intro p e s m below meth c s₁ X0 hx y hml hZ hown hnm hret hlk e0 hs0
  refine gs (fun _ k => castTop (ef_31 m x1 (0 : Int32) ss) k) ?_
  show Gf p e below _ s₁ m 0 #[vr x1, vi 0, vi ss, vu, vu] []
  refine gs (fun _ k => XS.aloadN X0.here hx rfl (hb y d10_0) rfl rfl k) ?_
  refine Gl.callV0 X0 hx hZ (y := my16) (z := my16) hown (w69 hw) (w70 hw) (notFace_of_selects (args := #[]) (mvT hZ (w72 hw))) (w72 hw) (w71 hw) (w73 hw) (w4 hw) (desc_ne (by decide)) (b := x1) (argsL := []) (rest := []) E1 (hN) 0 (by decide) (by decide) e0 hml.symm pd_20 rfl rfl (Nat.le_of_eq rfl) (hb y d10_1) (by decide) (by decide) ?_
  intro v1 T1 X1 e1 hv1
  subst hv1
  show Gf p e below _ T1 m 4 #[vr x1, vi 0, vi ss, vu, vu] [(.int nn)]
  refine gs (fun _ k => XS.istoreN X1.here hx rfl (hb y d10_4) rfl (l' := #[vr x1, vi 0, vi ss, vi nn, vu]) rfl (XS.iloadN X1.here hx rfl (hb y d10_5) rfl (XS.iloadN X1.here hx rfl (hb y d10_6) rfl (XS.iloadN X1.here hx rfl (hb y d10_7) rfl k)))) ?_
  refine Gl.callS0 X1 hx hZ (y := my30) hown (w79 hw) (w80 hw) (w4 hw) (w81 hw) (desc_ne (by decide)) (argsL := [(.int 0), (.int ss), (.int nn)]) (rest := []) (rmT2 hw (0 : Int32) ss nn fm n0 SF rf (by decide) h2 h3 O0) 0 (by decide) (by decide) e1 hml.symm pd_21 rfl rfl (Nat.le_of_eq rfl) (hb y d10_8) (by decide) (by decide) ?_
  intro v2 T2 X2 e2 hv2
  subst hv2
  show Gf p e below _ T2 m 11 #[vr x1, vi 0, vi ss, vi nn, vu] []
  refine gs (fun _ k => XS.iloadN X2.here hx rfl (hb y d10_11) rfl (XS.ifNo X2.here hx rfl (hb y d10_12) rfl ((if0 _ _).trans (teq (by decide : (0 : Int32) = (0 : Int32))).2) (XS.iloadN X2.here hx rfl (hb y d10_15) rfl (XS.iloadN X2.here hx rfl (hb y d10_16) rfl (XS.icmpYes X2.here hx rfl (pc0 := 17) (pc' := 22) rfl (hb y d10_17) rfl (feq h4).2 (by decide) (by decide) (XS.iloadN X2.here hx rfl (hb y d10_22) rfl k)))))) ?_
  show Gf p e below _ T2 m 23 #[vr x1, vi 0, vi ss, vi nn, vu] [(.int ss)]
  refine gs (fun _ k => XS.iloadN X2.here hx rfl (hb y d10_23) rfl (XS.isub X2.here hx rfl (hb y d10_24) rfl k)) ?_
  show Gf p e below _ T2 m 25 #[vr x1, vi 0, vi ss, vi nn, vu] [(.int (ss - (0 : Int32)))]
  rw [show (ss - (0 : Int32)) = ss from Int32.sub_zero _]
  refine gs (fun _ k => XS.istore X2.here hx rfl (hb y d10_25) rfl (l' := #[vr x1, vi 0, vi ss, vi nn, vi ss]) rfl (XS.aloadN X2.here hx rfl (hb y d10_27) rfl rfl k)) ?_
  refine Gl.callV0 X2 hx hZ (y := my12) (z := my12) hown (w87 hw) (w88 hw) (notFace_of_selects (args := #[]) (mvT hZ (w90 hw))) (w90 hw) (w89 hw) (w91 hw) (w4 hw) (desc_ne (by decide)) (b := x1) (argsL := []) (rest := []) E1 (rmQ1 hw x1 cz n0 Fc SC hcz O0) 0 (by decide) (by decide) e2 hml.symm pd_13 rfl rfl (Nat.le_of_eq rfl) (hb y d10_28) (by decide) (by decide) ?_
  intro v3 T3 X3 e3 hv3
  subst hv3
  show Gf p e below _ T3 m 31 #[vr x1, vi 0, vi ss, vi nn, vi ss] [(.int 0)]
  refine gs (fun _ k => XS.ifYes X3.here hx rfl (pc0 := 31) (pc' := 47) rfl (hb y d10_31) rfl ((if0 _ _).trans (teq (by decide : (0 : Int32) = (0 : Int32))).1) (by decide) (by decide) (XS.aloadN X3.here hx rfl (hb y d10_47) rfl rfl k)) ?_
  obtain ⟨T4, X4, e4, st4⟩ := getF X3 hx hZ hown (host := "") (Or.inl (w30 hw)) Via.refl e3 Fv (g := (mkF m 48 #[vr x1, vi 0, vi ss, vi nn, vi ss] [(.ref x1)])) rfl rfl (hb y d10_48)
  refine Gl.of st4 ?_
  show Gf p e below _ T4 m 51 #[vr x1, vi 0, vi ss, vi nn, vi ss] [(.ref t1)]
  refine gs (fun _ k => XS.iloadN X4.here hx rfl (hb y d10_51) rfl (XS.iload X4.here hx rfl (hb y d10_52) rfl k)) ?_
  refine Gl.callS X4 hx hZ (y := my28) hown (w164 hw) (w165 hw) (w19 hw) (w166 hw) (desc_ne (by decide)) (rm := ro 5 3 20 118) (argsL := [(.ref t1), (.int 0), (.int ss)]) (rest := []) (hS) 0 (by decide) (by decide) (by decide) (by decide) e4 hml.symm pd_22 rfl rfl (Nat.le_of_eq rfl) (hb y d10_54) ?_
  intro v5 T5 L5 X5 hQ5
  obtain ⟨r5, rfl⟩ := hv _ _ _ hQ5
  show Gf p e below _ T5 m 57 #[vr x1, vi 0, vi ss, vi nn, vi ss] [(.ref r5)]
  exact Gl.retR X5 hx hlk hret rfl rfl (hb y d10_57) rfl (hQ5) (by decide) (by decide)
theorem ef_32 (m : MethodId) (x0 : Addr) : entryFrame m #[(.ref x0)] 1 = mkF m 0 #[vr x0] [] := by first | (simp [entryFrame, mkF, argsToLocals, Value.category, maxLocals]; done) | rfl
theorem pn_4 : plainName "java/lang/Record" = true := by first | (simp [plainName, overriddenIn]; done) | decide +kernel
theorem d8_0 : decode bc0 0 = .ok (.aload_n 0, 1) := by decide +kernel
theorem d8_1 : decode bc0 1 = .ok (.invokespecial 1, 3) := by decide +kernel
theorem w46 (hw : HW Z a0) : (Jvm.Cond.methodLink "java/lang/Record" (1 : Nat) ⟨"java/lang/Object", "<init>", "()V"⟩).before a0 Z = true := hw _ (wm 46 rfl)
theorem d8_4 : decode bc0 4 = .ok (.return_, 1) := by decide +kernel
theorem rmRc {l : Launch} {Z : State} {a0 : Array Value} (hw : HW Z a0) {h0 : Heap} (a1 : Addr) : Con l Z my32 bc0 1 none [] (ro 1 0 0 12) 0 0 #[(.ref a1)] h0 (Pur (fun v => v = none) h0) := by
  refine Con.intro (plainFor_of_name pn_4) ?_
  intro p e s m below meth c s₁ X0 hx y hml hZ hown hnm hret hlk e0 hs0
  refine gs (fun _ k => castTop (ef_32 m a1) k) ?_
  show Gf p e below _ s₁ m 0 #[vr a1] []
  refine gs (fun _ k => XS.aloadN X0.here hx rfl (hb y d8_0) rfl rfl k) ?_
  obtain ⟨T1, X1, e1, st1⟩ := initO X0 hx hZ hown (w46 hw) (w14 hw) (w15 hw) e0 (g := (mkF m 1 #[vr a1] [(.ref a1)])) rfl hml.symm rfl (hb y d8_1) (by decide) (W := 0) (by show 2 * 0 + _ ≤ _; exact Nat.le_of_eq rfl) (by decide)
  refine Gl.of st1 ?_
  show Gf p e below _ T1 m 4 #[vr a1] []
  exact Gl.ret0 X1 hx hlk hret (hb y d8_4) e1 (⟨rfl, rfl, rfl⟩) (by decide) (by decide)
theorem ef_33 (m : MethodId) (x0 : Addr) (x1 : Addr) (x2 : Addr)  (x4 : Int32) (x5 : Int32) (x6 : Int32) : entryFrame m #[(.ref x0), (.ref x1), (.ref x2), .null, (.int x4), (.int x5), (.int x6)] 7 = mkF m 0 #[vr x0, vr x1, vr x2, .val .null, vi x4, vi x5, vi x6] [] := by first | (simp [entryFrame, mkF, argsToLocals, Value.category, maxLocals]; done) | rfl
theorem pn_5 : plainName "com/example/rulr/rulr/policy/SqlCondition$Membership" = true := by first | (simp [plainName, overriddenIn]; done) | decide +kernel
theorem d7_0 : decode bc34 0 = .ok (.aload_n 0, 1) := by decide +kernel
theorem d7_1 : decode bc34 1 = .ok (.invokespecial 1, 3) := by decide +kernel
theorem pd_23 : parseMethodDescriptor "()V" = some ⟨[], none⟩ := by decide +kernel
theorem w41 (hw : HW Z a0) : (Jvm.Cond.methodLink "com/example/rulr/rulr/policy/SqlCondition$Membership" (1 : Nat) ⟨"java/lang/Record", "<init>", "()V"⟩).before a0 Z = true := hw _ (wm 41 rfl)
theorem w42 (hw : HW Z a0) : (Jvm.Cond.instanceMethod ⟨"java/lang/Record", "<init>", "()V"⟩).before a0 Z = true := hw _ (wm 42 rfl)
theorem w44 (hw : HW Z a0) : (Jvm.Cond.initialized "java/lang/Record").before a0 Z = true := hw _ (wm 44 rfl)
theorem w45 (hw : HW Z a0) : (Jvm.Cond.code ⟨"java/lang/Record", "<init>", "()V"⟩ bc0 (1 : Nat) (Option.none : Option Jvm.ClassFile.FieldType)).before a0 Z = true := hw _ (wm 45 rfl)
theorem d7_4 : decode bc34 4 = .ok (.aload_n 0, 1) := by decide +kernel
theorem d7_5 : decode bc34 5 = .ok (.aload_n 1, 1) := by decide +kernel
theorem d7_6 : decode bc34 6 = .ok (.putfield 7, 3) := by decide +kernel
theorem w47 (hw : HW Z a0) : (Jvm.Cond.fieldLink "com/example/rulr/rulr/policy/SqlCondition$Membership" (7 : Nat) "com/example/rulr/rulr/policy/SqlCondition$Membership" "column" "Ljava/lang/String;").before a0 Z = true := hw _ (wm 47 rfl)
theorem w48 (hw : HW Z a0) : (Jvm.Cond.laysFinal "com/example/rulr/rulr/policy/SqlCondition$Membership" "com/example/rulr/rulr/policy/SqlCondition$Membership" "column" "Ljava/lang/String;").before a0 Z = true := hw _ (wm 48 rfl)
theorem w33 (hw : HW Z a0) : (Jvm.Cond.instantiable "com/example/rulr/rulr/policy/SqlCondition$Membership" (6 : Nat)).before a0 Z = true := hw _ (wm 33 rfl)
theorem w50 (hw : HW Z a0) : (Jvm.Cond.laysFinal "com/example/rulr/rulr/policy/SqlCondition$Membership" "com/example/rulr/rulr/policy/SqlCondition$Membership" "query" "Ljava/lang/String;").before a0 Z = true := hw _ (wm 50 rfl)
theorem w52 (hw : HW Z a0) : (Jvm.Cond.laysFinal "com/example/rulr/rulr/policy/SqlCondition$Membership" "com/example/rulr/rulr/policy/SqlCondition$Membership" "varying" "Lcom/example/rulr/rulr/policy/SqlCondition$Span;").before a0 Z = true := hw _ (wm 52 rfl)
theorem w54 (hw : HW Z a0) : (Jvm.Cond.laysFinal "com/example/rulr/rulr/policy/SqlCondition$Membership" "com/example/rulr/rulr/policy/SqlCondition$Membership" "selected" "I").before a0 Z = true := hw _ (wm 54 rfl)
theorem w56 (hw : HW Z a0) : (Jvm.Cond.laysFinal "com/example/rulr/rulr/policy/SqlCondition$Membership" "com/example/rulr/rulr/policy/SqlCondition$Membership" "anchored" "Z").before a0 Z = true := hw _ (wm 56 rfl)
theorem w58 (hw : HW Z a0) : (Jvm.Cond.laysFinal "com/example/rulr/rulr/policy/SqlCondition$Membership" "com/example/rulr/rulr/policy/SqlCondition$Membership" "joined" "I").before a0 Z = true := hw _ (wm 58 rfl)
theorem d7_9 : decode bc34 9 = .ok (.aload_n 0, 1) := by decide +kernel
theorem d7_10 : decode bc34 10 = .ok (.aload_n 2, 1) := by decide +kernel
theorem d7_11 : decode bc34 11 = .ok (.putfield 13, 3) := by decide +kernel
theorem w49 (hw : HW Z a0) : (Jvm.Cond.fieldLink "com/example/rulr/rulr/policy/SqlCondition$Membership" (13 : Nat) "com/example/rulr/rulr/policy/SqlCondition$Membership" "query" "Ljava/lang/String;").before a0 Z = true := hw _ (wm 49 rfl)
theorem d7_14 : decode bc34 14 = .ok (.aload_n 0, 1) := by decide +kernel
theorem d7_15 : decode bc34 15 = .ok (.aload_n 3, 1) := by decide +kernel
theorem d7_16 : decode bc34 16 = .ok (.putfield 16, 3) := by decide +kernel
theorem w51 (hw : HW Z a0) : (Jvm.Cond.fieldLink "com/example/rulr/rulr/policy/SqlCondition$Membership" (16 : Nat) "com/example/rulr/rulr/policy/SqlCondition$Membership" "varying" "Lcom/example/rulr/rulr/policy/SqlCondition$Span;").before a0 Z = true := hw _ (wm 51 rfl)
theorem d7_19 : decode bc34 19 = .ok (.aload_n 0, 1) := by decide +kernel
theorem d7_20 : decode bc34 20 = .ok (.iload 4, 2) := by decide +kernel
theorem d7_22 : decode bc34 22 = .ok (.putfield 20, 3) := by decide +kernel
theorem w53 (hw : HW Z a0) : (Jvm.Cond.fieldLink "com/example/rulr/rulr/policy/SqlCondition$Membership" (20 : Nat) "com/example/rulr/rulr/policy/SqlCondition$Membership" "selected" "I").before a0 Z = true := hw _ (wm 53 rfl)
theorem d7_25 : decode bc34 25 = .ok (.aload_n 0, 1) := by decide +kernel
theorem d7_26 : decode bc34 26 = .ok (.iload 5, 2) := by decide +kernel
theorem d7_28 : decode bc34 28 = .ok (.putfield 24, 3) := by decide +kernel
theorem w55 (hw : HW Z a0) : (Jvm.Cond.fieldLink "com/example/rulr/rulr/policy/SqlCondition$Membership" (24 : Nat) "com/example/rulr/rulr/policy/SqlCondition$Membership" "anchored" "Z").before a0 Z = true := hw _ (wm 55 rfl)
theorem d7_31 : decode bc34 31 = .ok (.aload_n 0, 1) := by decide +kernel
theorem d7_32 : decode bc34 32 = .ok (.iload 6, 2) := by decide +kernel
theorem d7_34 : decode bc34 34 = .ok (.putfield 28, 3) := by decide +kernel
theorem w57 (hw : HW Z a0) : (Jvm.Cond.fieldLink "com/example/rulr/rulr/policy/SqlCondition$Membership" (28 : Nat) "com/example/rulr/rulr/policy/SqlCondition$Membership" "joined" "I").before a0 Z = true := hw _ (wm 57 rfl)
theorem d7_37 : decode bc34 37 = .ok (.return_, 1) := by decide +kernel
theorem rmM {l : Launch} {Z : State} {a0 : Array Value} (hw : HW Z a0) {h0 : Heap} (a1 x1 x2 : Addr) (p4 p5 p6 : Int32) (n0 : Nat) (E1 : Exa Z h0 a1 "com/example/rulr/rulr/policy/SqlCondition$Membership") (I_column : Fld Z h0 a1 "com/example/rulr/rulr/policy/SqlCondition$Membership" "column" "Ljava/lang/String;" .null) (I_query : Fld Z h0 a1 "com/example/rulr/rulr/policy/SqlCondition$Membership" "query" "Ljava/lang/String;" .null) (I_varying : Fld Z h0 a1 "com/example/rulr/rulr/policy/SqlCondition$Membership" "varying" "Lcom/example/rulr/rulr/policy/SqlCondition$Span;" .null) (I_selected : Fld Z h0 a1 "com/example/rulr/rulr/policy/SqlCondition$Membership" "selected" "I" (.int 0)) (I_anchored : Fld Z h0 a1 "com/example/rulr/rulr/policy/SqlCondition$Membership" "anchored" "Z" (.int 0)) (I_joined : Fld Z h0 a1 "com/example/rulr/rulr/policy/SqlCondition$Membership" "joined" "I" (.int 0)) (Ga1 : n0 ≤ a1) (O0 : Old Z n0 h0) : Con l Z my33 bc34 7 none [] (ro 2 0 0 25) 0 0 #[(.ref a1), (.ref x1), (.ref x2), .null, (.int p4), (.int p5), (.int p6)] h0 (fun v h L => v = none ∧ Fr n0 L ∧ Keep h0 h [a1] ∧ Fld Z h a1 "com/example/rulr/rulr/policy/SqlCondition$Membership" "query" "Ljava/lang/String;" (.ref x2) ∧ Fld Z h a1 "com/example/rulr/rulr/policy/SqlCondition$Membership" "selected" "I" (.int p4)) := by
  refine Con.intro (plainFor_of_name pn_5) ?_
  intro p e s m below meth c s₁ X0 hx y hml hZ hown hnm hret hlk e0 hs0
  refine gs (fun _ k => castTop (ef_33 m a1 x1 x2  p4 p5 p6) k) ?_
  have K0 := Keep.refl h0 [a1]
  show Gf p e below _ s₁ m 0 #[vr a1, vr x1, vr x2, .val .null, vi p4, vi p5, vi p6] []
  refine gs (fun _ k => XS.aloadN X0.here hx rfl (hb y d7_0) rfl rfl k) ?_
  refine Gl.callI0 X0 hx hZ (y := my32) rfl hown (w41 hw) (w42 hw) (w44 hw) (w45 hw) (desc_ne (by decide)) (b := a1) (argsL := []) (rest := []) (rmRc hw a1) 0 (by decide) (by decide) e0 hml.symm pd_23 rfl rfl (Nat.le_of_eq rfl) (hb y d7_1) (by decide) (by decide) ?_
  intro v1 T1 X1 e1 hv1
  subst hv1
  show Gf p e below _ T1 m 4 #[vr a1, vr x1, vr x2, .val .null, vi p4, vi p5, vi p6] []
  refine gs (fun _ k => XS.aloadN X1.here hx rfl (hb y d7_4) rfl rfl (XS.aloadN X1.here hx rfl (hb y d7_5) rfl rfl k)) ?_
  obtain ⟨T2, h2, X2, e2, W2, st2⟩ := putF X1 hx hZ hown (host := "") (Or.inl (w47 hw)) Via.refl e1 I_column E1 (Or.inr ⟨(w48 hw), rfl, hnm⟩) (w33 hw) (ty := (.object "java/lang/String")) (by decide) rfl rfl (g := (mkF m 6 #[vr a1, vr x1, vr x2, .val .null, vi p4, vi p5, vi p6] [(.ref x1), (.ref a1)])) rfl rfl (hb y d7_6)
  refine Gl.of st2 ?_
  have F2 : Fld Z h2 a1 "com/example/rulr/rulr/policy/SqlCondition$Membership" "column" "Ljava/lang/String;" (.ref x1) := I_column.same W2
  have ec3 := E1.wr W2
  have fc4 := I_query.other W2 (Or.inr (slot_ne (Or.inr (w50 hw)) (Or.inr (w48 hw)) (by decide) (t := (.object "java/lang/String")) (t' := (.object "java/lang/String")) (by decide) (by decide)))
  have fc5 := I_varying.other W2 (Or.inr (slot_ne (Or.inr (w52 hw)) (Or.inr (w48 hw)) (by decide) (t := (.object "com/example/rulr/rulr/policy/SqlCondition$Span")) (t' := (.object "java/lang/String")) (by decide) (by decide)))
  have fc6 := I_selected.other W2 (Or.inr (slot_ne (Or.inr (w54 hw)) (Or.inr (w48 hw)) (by decide) (t := .int) (t' := (.object "java/lang/String")) (by decide) (by decide)))
  have fc7 := I_anchored.other W2 (Or.inr (slot_ne (Or.inr (w56 hw)) (Or.inr (w48 hw)) (by decide) (t := .boolean) (t' := (.object "java/lang/String")) (by decide) (by decide)))
  have fc8 := I_joined.other W2 (Or.inr (slot_ne (Or.inr (w58 hw)) (Or.inr (w48 hw)) (by decide) (t := .int) (t' := (.object "java/lang/String")) (by decide) (by decide)))
  have N2 := Fr.snoc X2 (Fr.nil n0) Ga1
  have O2 := O0.wr W2 Ga1
  have K2 := K0.wr W2 (Or.inl (List.mem_of_getElem? (i := 0) rfl))
  show Gf p e below _ T2 m 9 #[vr a1, vr x1, vr x2, .val .null, vi p4, vi p5, vi p6] []
  refine gs (fun _ k => XS.aloadN X2.here hx rfl (hb y d7_9) rfl rfl (XS.aloadN X2.here hx rfl (hb y d7_10) rfl rfl k)) ?_
  obtain ⟨T9, h9, X9, e9, W9, st9⟩ := putF X2 hx hZ hown (host := "") (Or.inl (w49 hw)) Via.refl e2 fc4 ec3 (Or.inr ⟨(w50 hw), rfl, hnm⟩) (w33 hw) (ty := (.object "java/lang/String")) (by decide) rfl rfl (g := (mkF m 11 #[vr a1, vr x1, vr x2, .val .null, vi p4, vi p5, vi p6] [(.ref x2), (.ref a1)])) rfl rfl (hb y d7_11)
  refine Gl.of st9 ?_
  have F9 : Fld Z h9 a1 "com/example/rulr/rulr/policy/SqlCondition$Membership" "query" "Ljava/lang/String;" (.ref x2) := fc4.same W9
  have ec10 := ec3.wr W9
  have fc11 := fc5.other W9 (Or.inr (slot_ne (Or.inr (w52 hw)) (Or.inr (w50 hw)) (by decide) (t := (.object "com/example/rulr/rulr/policy/SqlCondition$Span")) (t' := (.object "java/lang/String")) (by decide) (by decide)))
  have fc12 := fc6.other W9 (Or.inr (slot_ne (Or.inr (w54 hw)) (Or.inr (w50 hw)) (by decide) (t := .int) (t' := (.object "java/lang/String")) (by decide) (by decide)))
  have fc13 := fc7.other W9 (Or.inr (slot_ne (Or.inr (w56 hw)) (Or.inr (w50 hw)) (by decide) (t := .boolean) (t' := (.object "java/lang/String")) (by decide) (by decide)))
  have fc14 := fc8.other W9 (Or.inr (slot_ne (Or.inr (w58 hw)) (Or.inr (w50 hw)) (by decide) (t := .int) (t' := (.object "java/lang/String")) (by decide) (by decide)))
  have fc15 := F2.other W9 (Or.inr (slot_ne (Or.inr (w48 hw)) (Or.inr (w50 hw)) (by decide) (t := (.object "java/lang/String")) (t' := (.object "java/lang/String")) (by decide) (by decide)))
  have N9 := Fr.snoc X9 N2 Ga1
  have O9 := O2.wr W9 Ga1
  have K9 := K2.wr W9 (Or.inl (List.mem_of_getElem? (i := 0) rfl))
  show Gf p e below _ T9 m 14 #[vr a1, vr x1, vr x2, .val .null, vi p4, vi p5, vi p6] []
  refine gs (fun _ k => XS.aloadN X9.here hx rfl (hb y d7_14) rfl rfl (XS.aloadN X9.here hx rfl (hb y d7_15) rfl rfl k)) ?_
  obtain ⟨T16, h16, X16, e16, W16, st16⟩ := putF X9 hx hZ hown (host := "") (Or.inl (w51 hw)) Via.refl e9 fc11 ec10 (Or.inr ⟨(w52 hw), rfl, hnm⟩) (w33 hw) (ty := (.object "com/example/rulr/rulr/policy/SqlCondition$Span")) (by decide) rfl rfl (g := (mkF m 16 #[vr a1, vr x1, vr x2, .val .null, vi p4, vi p5, vi p6] [.null, (.ref a1)])) rfl rfl (hb y d7_16)
  refine Gl.of st16 ?_
  have F16 : Fld Z h16 a1 "com/example/rulr/rulr/policy/SqlCondition$Membership" "varying" "Lcom/example/rulr/rulr/policy/SqlCondition$Span;" .null := fc11.same W16
  have ec17 := ec10.wr W16
  have fc18 := fc12.other W16 (Or.inr (slot_ne (Or.inr (w54 hw)) (Or.inr (w52 hw)) (by decide) (t := .int) (t' := (.object "com/example/rulr/rulr/policy/SqlCondition$Span")) (by decide) (by decide)))
  have fc19 := fc13.other W16 (Or.inr (slot_ne (Or.inr (w56 hw)) (Or.inr (w52 hw)) (by decide) (t := .boolean) (t' := (.object "com/example/rulr/rulr/policy/SqlCondition$Span")) (by decide) (by decide)))
  have fc20 := fc14.other W16 (Or.inr (slot_ne (Or.inr (w58 hw)) (Or.inr (w52 hw)) (by decide) (t := .int) (t' := (.object "com/example/rulr/rulr/policy/SqlCondition$Span")) (by decide) (by decide)))
  have fc21 := fc15.other W16 (Or.inr (slot_ne (Or.inr (w48 hw)) (Or.inr (w52 hw)) (by decide) (t := (.object "java/lang/String")) (t' := (.object "com/example/rulr/rulr/policy/SqlCondition$Span")) (by decide) (by decide)))
  have fc22 := F9.other W16 (Or.inr (slot_ne (Or.inr (w50 hw)) (Or.inr (w52 hw)) (by decide) (t := (.object "java/lang/String")) (t' := (.object "com/example/rulr/rulr/policy/SqlCondition$Span")) (by decide) (by decide)))
  have N16 := Fr.snoc X16 N9 Ga1
  have O16 := O9.wr W16 Ga1
  have K16 := K9.wr W16 (Or.inl (List.mem_of_getElem? (i := 0) rfl))
  show Gf p e below _ T16 m 19 #[vr a1, vr x1, vr x2, .val .null, vi p4, vi p5, vi p6] []
  refine gs (fun _ k => XS.aloadN X16.here hx rfl (hb y d7_19) rfl rfl (XS.iload X16.here hx rfl (hb y d7_20) rfl k)) ?_
  obtain ⟨T23, h23, X23, e23, W23, st23⟩ := putF X16 hx hZ hown (host := "") (Or.inl (w53 hw)) Via.refl e16 fc18 ec17 (Or.inr ⟨(w54 hw), rfl, hnm⟩) (w33 hw) (ty := .int) (by decide) rfl rfl (g := (mkF m 22 #[vr a1, vr x1, vr x2, .val .null, vi p4, vi p5, vi p6] [(.int p4), (.ref a1)])) rfl rfl (hb y d7_22)
  refine Gl.of st23 ?_
  have F23 : Fld Z h23 a1 "com/example/rulr/rulr/policy/SqlCondition$Membership" "selected" "I" (.int p4) := fc18.same W23
  have ec24 := ec17.wr W23
  have fc25 := fc19.other W23 (Or.inr (slot_ne (Or.inr (w56 hw)) (Or.inr (w54 hw)) (by decide) (t := .boolean) (t' := .int) (by decide) (by decide)))
  have fc26 := fc20.other W23 (Or.inr (slot_ne (Or.inr (w58 hw)) (Or.inr (w54 hw)) (by decide) (t := .int) (t' := .int) (by decide) (by decide)))
  have fc27 := fc21.other W23 (Or.inr (slot_ne (Or.inr (w48 hw)) (Or.inr (w54 hw)) (by decide) (t := (.object "java/lang/String")) (t' := .int) (by decide) (by decide)))
  have fc28 := fc22.other W23 (Or.inr (slot_ne (Or.inr (w50 hw)) (Or.inr (w54 hw)) (by decide) (t := (.object "java/lang/String")) (t' := .int) (by decide) (by decide)))
  have fc29 := F16.other W23 (Or.inr (slot_ne (Or.inr (w52 hw)) (Or.inr (w54 hw)) (by decide) (t := (.object "com/example/rulr/rulr/policy/SqlCondition$Span")) (t' := .int) (by decide) (by decide)))
  have N23 := Fr.snoc X23 N16 Ga1
  have O23 := O16.wr W23 Ga1
  have K23 := K16.wr W23 (Or.inl (List.mem_of_getElem? (i := 0) rfl))
  show Gf p e below _ T23 m 25 #[vr a1, vr x1, vr x2, .val .null, vi p4, vi p5, vi p6] []
  refine gs (fun _ k => XS.aloadN X23.here hx rfl (hb y d7_25) rfl rfl (XS.iload X23.here hx rfl (hb y d7_26) rfl k)) ?_
  obtain ⟨T30, h30, X30, e30, W30, st30⟩ := putFN X23 hx hZ hown (w55 hw) Via.refl e23 fc25 ec24 (Or.inr ⟨(w56 hw), rfl, hnm⟩) (w33 hw) (ty := .boolean) (v' := (.int (nar .boolean p5))) (by decide) rfl (fits_nar_bool _) (g := (mkF m 28 #[vr a1, vr x1, vr x2, .val .null, vi p4, vi p5, vi p6] [(.int p5), (.ref a1)])) rfl rfl (hb y d7_28)
  refine Gl.of st30 ?_
  have F30 : Fld Z h30 a1 "com/example/rulr/rulr/policy/SqlCondition$Membership" "anchored" "Z" (.int (nar .boolean p5)) := fc25.same W30
  have ec31 := ec24.wr W30
  have fc32 := fc26.other W30 (Or.inr (slot_ne (Or.inr (w58 hw)) (Or.inr (w56 hw)) (by decide) (t := .int) (t' := .boolean) (by decide) (by decide)))
  have fc33 := fc27.other W30 (Or.inr (slot_ne (Or.inr (w48 hw)) (Or.inr (w56 hw)) (by decide) (t := (.object "java/lang/String")) (t' := .boolean) (by decide) (by decide)))
  have fc34 := fc28.other W30 (Or.inr (slot_ne (Or.inr (w50 hw)) (Or.inr (w56 hw)) (by decide) (t := (.object "java/lang/String")) (t' := .boolean) (by decide) (by decide)))
  have fc35 := fc29.other W30 (Or.inr (slot_ne (Or.inr (w52 hw)) (Or.inr (w56 hw)) (by decide) (t := (.object "com/example/rulr/rulr/policy/SqlCondition$Span")) (t' := .boolean) (by decide) (by decide)))
  have fc36 := F23.other W30 (Or.inr (slot_ne (Or.inr (w54 hw)) (Or.inr (w56 hw)) (by decide) (t := .int) (t' := .boolean) (by decide) (by decide)))
  have N30 := Fr.snoc X30 N23 Ga1
  have O30 := O23.wr W30 Ga1
  have K30 := K23.wr W30 (Or.inl (List.mem_of_getElem? (i := 0) rfl))
  show Gf p e below _ T30 m 31 #[vr a1, vr x1, vr x2, .val .null, vi p4, vi p5, vi p6] []
  refine gs (fun _ k => XS.aloadN X30.here hx rfl (hb y d7_31) rfl rfl (XS.iload X30.here hx rfl (hb y d7_32) rfl k)) ?_
  obtain ⟨T37, h37, X37, e37, W37, st37⟩ := putF X30 hx hZ hown (host := "") (Or.inl (w57 hw)) Via.refl e30 fc32 ec31 (Or.inr ⟨(w58 hw), rfl, hnm⟩) (w33 hw) (ty := .int) (by decide) rfl rfl (g := (mkF m 34 #[vr a1, vr x1, vr x2, .val .null, vi p4, vi p5, vi p6] [(.int p6), (.ref a1)])) rfl rfl (hb y d7_34)
  refine Gl.of st37 ?_
  have F37 : Fld Z h37 a1 "com/example/rulr/rulr/policy/SqlCondition$Membership" "joined" "I" (.int p6) := fc32.same W37
  have ec38 := ec31.wr W37
  have fc39 := fc33.other W37 (Or.inr (slot_ne (Or.inr (w48 hw)) (Or.inr (w58 hw)) (by decide) (t := (.object "java/lang/String")) (t' := .int) (by decide) (by decide)))
  have fc40 := fc34.other W37 (Or.inr (slot_ne (Or.inr (w50 hw)) (Or.inr (w58 hw)) (by decide) (t := (.object "java/lang/String")) (t' := .int) (by decide) (by decide)))
  have fc41 := fc35.other W37 (Or.inr (slot_ne (Or.inr (w52 hw)) (Or.inr (w58 hw)) (by decide) (t := (.object "com/example/rulr/rulr/policy/SqlCondition$Span")) (t' := .int) (by decide) (by decide)))
  have fc42 := fc36.other W37 (Or.inr (slot_ne (Or.inr (w54 hw)) (Or.inr (w58 hw)) (by decide) (t := .int) (t' := .int) (by decide) (by decide)))
  have fc43 := F30.other W37 (Or.inr (slot_ne (Or.inr (w56 hw)) (Or.inr (w58 hw)) (by decide) (t := .boolean) (t' := .int) (by decide) (by decide)))
  have N37 := Fr.snoc X37 N30 Ga1
  have O37 := O30.wr W37 Ga1
  have K37 := K30.wr W37 (Or.inl (List.mem_of_getElem? (i := 0) rfl))
  show Gf p e below _ T37 m 37 #[vr a1, vr x1, vr x2, .val .null, vi p4, vi p5, vi p6] []
  exact Gl.ret0 X37 hx hlk hret (hb y d7_37) e37 (⟨rfl, N37, K37, fc40, fc42⟩) (by decide) (by decide)
theorem ef_34 (m : MethodId) (x0 : Addr) : entryFrame m #[(.ref x0)] 1 = mkF m 0 #[vr x0] [] := by first | (simp [entryFrame, mkF, argsToLocals, Value.category, maxLocals]; done) | rfl
theorem d9_0 : decode bc35 0 = .ok (.aload_n 0, 1) := by decide +kernel
theorem d9_1 : decode bc35 1 = .ok (.getfield 13, 3) := by decide +kernel
theorem d9_4 : decode bc35 4 = .ok (.iconst 0, 1) := by decide +kernel
theorem d9_5 : decode bc35 5 = .ok (.aload_n 0, 1) := by decide +kernel
theorem d9_6 : decode bc35 6 = .ok (.getfield 20, 3) := by decide +kernel
theorem d9_9 : decode bc35 9 = .ok (.invokevirtual 41, 3) := by decide +kernel
theorem pd_24 : parseMethodDescriptor "(II)Ljava/lang/String;" = some ⟨[.int, .int], some (.object "java/lang/String")⟩ := by decide +kernel
theorem w67 (hw : HW Z a0) : (Jvm.Cond.selects "java/lang/String" ⟨"java/lang/String", "substring", "(II)Ljava/lang/String;"⟩ ⟨"java/lang/String", "substring", "(II)Ljava/lang/String;"⟩).before a0 Z = true := hw _ (wm 67 rfl)
theorem w64 (hw : HW Z a0) : (Jvm.Cond.methodLink "com/example/rulr/rulr/policy/SqlCondition$Membership" (41 : Nat) ⟨"java/lang/String", "substring", "(II)Ljava/lang/String;"⟩).before a0 Z = true := hw _ (wm 64 rfl)
theorem w65 (hw : HW Z a0) : (Jvm.Cond.declares ⟨"java/lang/String", "substring", "(II)Ljava/lang/String;"⟩).before a0 Z = true := hw _ (wm 65 rfl)
theorem w66 (hw : HW Z a0) : (Jvm.Cond.instanceMethod ⟨"java/lang/String", "substring", "(II)Ljava/lang/String;"⟩).before a0 Z = true := hw _ (wm 66 rfl)
theorem w68 (hw : HW Z a0) : (Jvm.Cond.code ⟨"java/lang/String", "substring", "(II)Ljava/lang/String;"⟩ bc14 (5 : Nat) (Option.some (Jvm.ClassFile.FieldType.object "java/lang/String"))).before a0 Z = true := hw _ (wm 68 rfl)
theorem d9_12 : decode bc35 12 = .ok (.areturn, 1) := by decide +kernel
theorem rmSl {l : Launch} {Z : State} {a0 : Array Value} (hw : HW Z a0) {h0 : Heap} (Q : Option Value → Heap → List Loc → Prop) (a1 x1 : Addr) (ss : Int32) (hv : ∀ v h L, Q v h L → ∃ r, v = some (.ref r)) (Fq : Fld Z h0 a1 "com/example/rulr/rulr/policy/SqlCondition$Membership" "query" "Ljava/lang/String;" (.ref x1)) (Fs : Fld Z h0 a1 "com/example/rulr/rulr/policy/SqlCondition$Membership" "selected" "I" (.int ss)) (E1 : xS Z h0 x1) (hS : Con l Z my31 bc14 5 (some (.object "java/lang/String")) [] (ro 6 3 20 134) 3 20 #[(.ref x1), (.int 0), (.int ss)] h0 (Q)) : Con l Z my34 bc35 1 (some (.object "java/lang/String")) [] (ro 7 3 20 152) 3 20 #[(.ref a1)] h0 (Q) := by
  refine Con.intro (plainFor_of_name pn_5) ?_
  intro p e s m below meth c s₁ X0 hx y hml hZ hown hnm hret hlk e0 hs0
  refine gs (fun _ k => castTop (ef_34 m a1) k) ?_
  show Gf p e below _ s₁ m 0 #[vr a1] []
  refine gs (fun _ k => XS.aloadN X0.here hx rfl (hb y d9_0) rfl rfl k) ?_
  obtain ⟨T1, X1, e1, st1⟩ := getF X0 hx hZ hown (host := "") (Or.inl (w49 hw)) Via.refl e0 Fq (g := (mkF m 1 #[vr a1] [(.ref a1)])) rfl rfl (hb y d9_1)
  refine Gl.of st1 ?_
  show Gf p e below _ T1 m 4 #[vr a1] [(.ref x1)]
  refine gs (fun _ k => XS.iconst X1.here hx rfl (hb y d9_4) (XS.aloadN X1.here hx rfl (hb y d9_5) rfl rfl k)) ?_
  obtain ⟨T2, X2, e2, st2⟩ := getF X1 hx hZ hown (host := "") (Or.inl (w53 hw)) Via.refl e1 Fs (g := (mkF m 6 #[vr a1] [(.ref a1), (.int 0), (.ref x1)])) rfl rfl (hb y d9_6)
  refine Gl.of st2 ?_
  show Gf p e below _ T2 m 9 #[vr a1] [(.int ss), (.int 0), (.ref x1)]
  refine Gl.callV X2 hx hZ (y := my31) (z := my31) hown (w64 hw) (w65 hw) (notFace_of_selects (args := #[]) (mvT hZ (w67 hw))) (w67 hw) (w66 hw) (w68 hw) (w4 hw) (desc_ne (by decide)) (rm := ro 6 3 20 134) (b := x1) (argsL := [(.int 0), (.int ss)]) (rest := []) E1 (hS) 0 (by decide) (by decide) (by decide) (by decide) e2 hml.symm pd_24 rfl rfl (Nat.le_of_eq rfl) (hb y d9_9) ?_
  intro v3 T3 L3 X3 hQ3
  obtain ⟨r3, rfl⟩ := hv _ _ _ hQ3
  show Gf p e below _ T3 m 12 #[vr a1] [(.ref r3)]
  exact Gl.retR X3 hx hlk hret rfl rfl (hb y d9_12) rfl (hQ3) (by decide) (by decide)
theorem rmSlP {l : Launch} {Z : State} {a0 : Array Value} (hw : HW Z a0) {h0 : Heap} (a1 x1 : Addr) (ss : Int32) (Fq : Fld Z h0 a1 "com/example/rulr/rulr/policy/SqlCondition$Membership" "query" "Ljava/lang/String;" (.ref x1)) (Fs : Fld Z h0 a1 "com/example/rulr/rulr/policy/SqlCondition$Membership" "selected" "I" (.int ss)) (E1 : xS Z h0 x1) (hS : Con l Z my31 bc14 5 (some (.object "java/lang/String")) [] (ro 6 0 0 134) 0 0 #[(.ref x1), (.int 0), (.int ss)] h0 (Pur (fun v => v = some (.ref x1)) h0)) : Con l Z my34 bc35 1 (some (.object "java/lang/String")) [] (ro 7 0 0 152) 0 0 #[(.ref a1)] h0 (Pur (fun v => v = some (.ref x1)) h0) := by
  refine Con.intro (plainFor_of_name pn_5) ?_
  intro p e s m below meth c s₁ X0 hx y hml hZ hown hnm hret hlk e0 hs0
  refine gs (fun _ k => castTop (ef_34 m a1) k) ?_
  show Gf p e below _ s₁ m 0 #[vr a1] []
  refine gs (fun _ k => XS.aloadN X0.here hx rfl (hb y d9_0) rfl rfl k) ?_
  obtain ⟨T1, X1, e1, st1⟩ := getF X0 hx hZ hown (host := "") (Or.inl (w49 hw)) Via.refl e0 Fq (g := (mkF m 1 #[vr a1] [(.ref a1)])) rfl rfl (hb y d9_1)
  refine Gl.of st1 ?_
  show Gf p e below _ T1 m 4 #[vr a1] [(.ref x1)]
  refine gs (fun _ k => XS.iconst X1.here hx rfl (hb y d9_4) (XS.aloadN X1.here hx rfl (hb y d9_5) rfl rfl k)) ?_
  obtain ⟨T2, X2, e2, st2⟩ := getF X1 hx hZ hown (host := "") (Or.inl (w53 hw)) Via.refl e1 Fs (g := (mkF m 6 #[vr a1] [(.ref a1), (.int 0), (.ref x1)])) rfl rfl (hb y d9_6)
  refine Gl.of st2 ?_
  show Gf p e below _ T2 m 9 #[vr a1] [(.int ss), (.int 0), (.ref x1)]
  refine Gl.callV0 X2 hx hZ (y := my31) (z := my31) hown (w64 hw) (w65 hw) (notFace_of_selects (args := #[]) (mvT hZ (w67 hw))) (w67 hw) (w66 hw) (w68 hw) (w4 hw) (desc_ne (by decide)) (b := x1) (argsL := [(.int 0), (.int ss)]) (rest := []) E1 (hS) 0 (by decide) (by decide) e2 hml.symm pd_24 rfl rfl (Nat.le_of_eq rfl) (hb y d9_9) (by decide) (by decide) ?_
  intro v3 T3 X3 e3 hv3
  subst hv3
  show Gf p e below _ T3 m 12 #[vr a1] [(.ref x1)]
  exact Gl.retR X3 hx hlk hret rfl rfl (hb y d9_12) e3 (⟨rfl, rfl, rfl⟩) (by decide) (by decide)
theorem rmSlE {l : Launch} {Z : State} {a0 : Array Value} (hw : HW Z a0) {h0 : Heap} (Q : Option Value → Heap → List Loc → Prop) (a1 x1 : Addr) (ss : Int32) (hv : ∀ v h L, Q v h L → ∃ r, v = some (.ref r)) (Fq : Fld Z h0 a1 "com/example/rulr/rulr/policy/SqlCondition$Membership" "query" "Ljava/lang/String;" (.ref x1)) (Fs : Fld Z h0 a1 "com/example/rulr/rulr/policy/SqlCondition$Membership" "selected" "I" (.int ss)) (E1 : xS Z h0 x1) (hS : ConE l Z own_EL my31 bc14 5 (some (.object "java/lang/String")) [] (ro 6 2 4 134) 2 4 #[(.ref x1), (.int 0), (.int ss)] h0 (Q)) : ConE l Z own_EL my34 bc35 1 (some (.object "java/lang/String")) [] (ro 7 2 4 152) 2 4 #[(.ref a1)] h0 (Q) := by
  refine ConE.intro (plainFor_of_name pn_5) ?_
  intro p e s m below meth c s₁ X0 hx y hml hZ hown hnm hret hlk e0 hs0 hR0
  refine gs (fun _ k => castTop (ef_34 m a1) k) ?_
  have hS0 := (State.WarmedH.refl s).since 0
  have hk0 : 0 ≤ h0.size := Nat.zero_le _
  show Gf p e below _ s₁ m 0 #[vr a1] []
  refine gs (fun _ k => XS.aloadN X0.here hx rfl (hb y d9_0) rfl rfl k) ?_
  obtain ⟨T1, X1, e1, st1⟩ := getF X0 hx hZ hown (host := "") (Or.inl (w49 hw)) Via.refl e0 Fq (g := (mkF m 1 #[vr a1] [(.ref a1)])) rfl rfl (hb y d9_1)
  refine Gl.of st1 ?_
  show Gf p e below _ T1 m 4 #[vr a1] [(.ref x1)]
  refine gs (fun _ k => XS.iconst X1.here hx rfl (hb y d9_4) (XS.aloadN X1.here hx rfl (hb y d9_5) rfl rfl k)) ?_
  obtain ⟨T2, X2, e2, st2⟩ := getF X1 hx hZ hown (host := "") (Or.inl (w53 hw)) Via.refl e1 Fs (g := (mkF m 6 #[vr a1] [(.ref a1), (.int 0), (.ref x1)])) rfl rfl (hb y d9_6)
  refine Gl.of st2 ?_
  show Gf p e below _ T2 m 9 #[vr a1] [(.int ss), (.int 0), (.ref x1)]
  refine Gl.callVE X2 hx hZ hS0 hk0 (own_el hw) hR0 (y := my31) (z := my31) hown (w64 hw) (w65 hw) (notFace_of_selects (args := #[]) (mvT hZ (w67 hw))) (w67 hw) (w66 hw) (w68 hw) (w4 hw) (desc_ne (by decide)) (rm := ro 6 2 4 134) (b := x1) (argsL := [(.int 0), (.int ss)]) (rest := []) E1 (hS) 0 (by decide) (by decide) (by decide) (by decide) e2 hml.symm pd_24 rfl rfl (Nat.le_of_eq rfl) (hb y d9_9) ?_
  intro v3 T3 L3 X3 hS3 hZ hown hQ3
  obtain ⟨r3, rfl⟩ := hv _ _ _ hQ3
  show Gf p e below _ T3 m 12 #[vr a1] [(.ref r3)]
  exact Gl.retRW X3 hx hlk hret rfl rfl (hb y d9_12) rfl (hQ3) hS3 (Nat.le_refl _) (by decide) (by decide)
section OwnLdcW
open Jvm.Free.SB Jvm.Free.SBG
variable {p : Program} {l : Launch} {e : Env} {R : Room} {s : State} {m : MethodId} {args : Array Value} {below : List Frame} {meth : Method} {c : Code} {T : State} {locs : List Loc} {cells slots : Nat} {Z : State} {a0 : Array Value} {h : Heap} {EL : List (String × Nat)}
/-- what SlOf says, in the walk's words -/
theorem own_slv {vm1 : Vm} {a : Addr} {units : Array UInt16} {text : String} {vs : List Value} {z : Int32} (hW : Z.Warmed39 vm1) (F : SlOf (Wst Z vm1 h) a units) (htext : utf16ToString? units = some text)
    (ht : (∀ c ∈ text.toList, c.toNat < 256) ∧ text.toList.map (fun c => Value.int (Jvm.Lit.byteI c.toNat.toUInt16)) = vs) (hz : ¬ z < 0) (hl : z.toNatClampNeg = vs.length) :
    ∃ (b : Addr) (k : ClassId), xS Z h a ∧ fC Z h a 0 ∧ fV Z h a b ∧ Arv Z h b k .byte z vs (.int 0) := by
  have al := hW.alike
  have hlat := Jvm.ClassFile.lat_of_text htext ht.1
  obtain ⟨q, cS, rfl, ⟨⟨s1, s2, s3, ⟨cv, kv, iv, s4, s4'⟩, ⟨cc, kc, ic, s5, s5'⟩, s6, s7, s8, s9, s10, s11, s12, -, -, -, s16⟩, hfS, rfl⟩, ⟨kS, k1, -, k3⟩, hB, hbyt⟩ := F
  obtain ⟨kv', z4⟩ := ff_back (U := Wst Z vm1 h) al s4
  obtain ⟨kc', z5⟩ := ff_back (U := Wst Z vm1 h) al s5
  have hfZ : Z.vm.findClass "java/lang/String" = some q.sC.cls := by rw [← al.findClass]; exact hfS
  have hBZ : Z.vm.findClass "[B" = some q.SA.cls := by rw [← al.findClass]; exact hB
  obtain ⟨kz, hkz, -⟩ := Vm.findClass_spec hfZ
  obtain ⟨kz', hkz', ekz⟩ := al.2.2 _ _ hkz
  cases hkz'.symm.trans k1
  have eu : vs = units.toList.map fun u => Value.int (Jvm.Lit.byteI u) := by rw [← ht.2, Jvm.ClassFile.units_of_text htext ht.1, List.map_map]; rfl
  have hsl : q.SA.slots = units.map fun u => Value.int (Jvm.Lit.byteI u) := by rw [hbyt, SBG.stringBytes_lat hlat]; rfl
  have hsz : q.SA.slots.size = vs.length := by rw [hsl, eu]; simp
  have G : Has q.SA vs (.int 0) := fun j hj => by
    have : j < units.size := by rw [hsl, Array.size_map] at hj; exact hj
    rw [hsl, eu]; simp [this]
  refine ⟨q.sd, q.SA.cls, ⟨q.sC, kz, s1, hfZ, hkz, s3, fun _ => by rw [k3, ekz]⟩, ⟨q.sC, cc, kc', ic, q.fSC, s1, z5, s7, s2, s3, by rw [← al.assignable]; exact s5', s9⟩, ⟨q.sC, cv, kv', iv, q.fSV, s1, z4, s6, s2, s3, by rw [← al.assignable]; exact s4', s8⟩, ⟨q.SA, ⟨s10, State.isArrayOf_alike (s := Wst Z vm1 h) (al.symm) s11, s12⟩, rfl, by rw [hsz, hl], hz, G, fun j hj => ?_⟩⟩
  have e1 := s16 j hj
  rw [SBG.getD_of (G j hj)] at e1
  exact e1
set_option maxHeartbeats 16000000 in
/-- the step of 'ldc_w' at a String constant that the machine holds nowhere yet: two cells are made -/
theorem own_ldcwNew (X : Stand p l e R s m args below meth c T locs cells slots) (hx : p.tables.exec = Jvm.exec) (hS : ∀ a ∈ Bundle.stringAtoms, a.before args s = true) {k k' : Class} {cf : ClassFile} {i index : Nat} {units : Array UInt16} {text : String}
    (hk : s.vm.classes[m.cls]? = some k) (hk' : T.vm.classes[m.cls]? = some k') (hcf : k.cf = some cf) (hcf' : k'.cf = some cf) (hc : cf.constantPool[index]? = some (.string i)) (hu : cf.constantPool[i]? = some (.utf8 units)) (hnm : namesOf? cf.constantPool index = some (.string text))
    (o0 : k.resolved[index]? = some none) (o1 : k'.resolved[index]? = some none) (hf : T.vm.interned.find? (fun p => p.1 == units) = none) (hlat : units.all (· < 256) = true)
    {g : JFrame} (hg : g.method = m) (hd : decode c.code g.pc = .ok (.ldc_w index, 3)) {n : Nat} (hn : (stringBytes units).size ≤ n) (hbig : n ≤ 536870912) (h1 : cells + 2 ≤ R.cells) (h2 : slots + (n + 4) ≤ R.slots) :
    ∃ U : State, Stand p l e R (s.setVm U.vm) m args below meth c U locs (cells + 2) (slots + (n + 4)) ∧ s.Since U.vm U.heap.size ∧ (∀ a0, a0 < T.heap.size → U.heap[a0]? = T.heap[a0]?) ∧ SlIn 0 T.heap.size U (T.heap.size + 1) units ∧
      ∀ target, Steps p.tables e below (U.setTop { g with pc := g.pc + 3, stack := .ref (T.heap.size + 1) :: g.stack }) target → Steps p.tables e below (T.setTop g) target := by
  subst hg
  obtain ⟨Y, LY, four, fitv, fitc⟩ := StringT.of_atoms (args := args) hS
  obtain ⟨kS, kB, LT, ty⟩ := LY.warmer X.warmed.alike
  have fs : T.fitsSlot = s.fitsSlot := (show T.fitsSlot = (s.setVm T.vm).fitsSlot from rfl).trans (State.fitsSlot_setVm X.warmed.alike)
  let vm2 : Vm := ({ T.vm with interned := T.vm.interned.push (units, T.heap.size + 1) } : Vm).noted g.method.cls index (.string (T.heap.size + 1))
  let V : State := withString T Y.cB Y.cS kS Y.fv Y.fc units
  have eV : V = (T.pushCell (bytesOf Y.cB units)).pushCell (stringAt Y.cS kS Y.fv Y.fc units T.heap.size) := withString_eq ..
  have eH : V.heap = (T.heap.push (bytesOf Y.cB units)).push (stringAt Y.cS kS Y.fv Y.fc units T.heap.size) := by rw [eV]; rfl
  have sz : V.heap.size = T.heap.size + 2 := by rw [eH]; simp
  have W2 : s.Warmed39 vm2 := (X.warmed.wide.interns units (T.heap.size + 1)).notedString (units := units) (text := text) (si := i) hk (Or.inl o0) (by rw [hcf]; exact hnm) (by rw [hcf]; exact hc) (by rw [hcf]; simp [ConstantPool.utf8?, hu]) (by
    show (T.vm.interned.push (units, T.heap.size + 1)).find? _ = _
    rw [Array.find?_push, hf]; simp)
  have q1 : (bytesOf Y.cB units).slots.size = (stringBytes units).size := by rw [(Cell.writeAll_facts _ _).2.2]; simp [bytes0]
  have q2 : (stringAt Y.cS kS Y.fv Y.fc units T.heap.size).slots.size = 4 := by simp [string0, Cell.setSlot, ty, four]
  have X2 := (X.pushed (bytesOf Y.cB units)).pushed (stringAt Y.cS kS Y.fv Y.fc units T.heap.size)
  rw [← eV] at X2
  have one : T.Interned1 (V.setVm vm2) := ⟨by show T.heap.size ≤ V.heap.size; omega, Or.inr ⟨units, T.heap.size + 1, rfl, by omega, by show T.heap.size + 1 < V.heap.size; omega⟩⟩
  refine ⟨V.setVm vm2, (X2.mono (by omega) (by rw [q1, q2]; omega)).retabled W2, ⟨W2, State.Booked.step (X.warmed.no_new_pair _) X.same.2.1 one⟩, fun b hb => ?_, made_sl hS LY four ty W2.alike ?_ ?_ hlat (by omega) 0, fun target rest => ?_⟩
  · show V.heap[b]? = _
    rw [eH, Array.getElem?_push, if_neg (by rw [Array.size_push]; omega), Array.getElem?_push, if_neg (by omega)]
  · show V.heap[T.heap.size]? = _
    rw [eH, Array.getElem?_push, if_neg (by rw [Array.size_push]; omega), Array.getElem?_push, if_pos rfl]
  · show V.heap[T.heap.size + 1]? = _
    rw [eH, Array.getElem?_push, if_pos (by rw [Array.size_push])]
  · refine Steps.instr (c := _) (by simpa using X.here) ?_
    simp [jvm, wpRun, exec, X.here.top, hx, hd]
    refine ldc_w.wp_string_new (e := e) (s := T) (f := g) X.here.top hk' hcf' hc hu o1 hf LT.found LT.cls LT.initialized LT.ordinary LT.foundB LT.clsB LT.kindB LT.value LT.coder ?_ ?_ (X.cellsAbove h1) ?_ (stringBytes_fit LT.clsB LT.kindB units) LT.valueSlot LT.coderSlot (by rw [fs]; exact fitv _) (by rw [fs]; exact fitc _) (fun d' acts' => ?_)
    · rw [Launch.admits_arrayLengthLimit X.admits]; omega
    · rw [Launch.admits_maxHeapBytes X.admits]; simp only [componentBytes]; omega
    · have := X.slotsAbove h2
      show T.slotsUsed + (stringBytes units).size + kS.instanceTypes.size ≤ _
      rw [ty, four]; omega
    · intro acts''
      have t1 : (withString T Y.cB Y.cS kS Y.fv Y.fc units).topJava?.isSome := by simpa [withString] using X.here.top
      have t2 : ((withString T Y.cB Y.cS kS Y.fv Y.fc units).setVm (({ T.vm with interned := T.vm.interned.push (units, T.heap.size + 1) } : Vm).noted g.method.cls index (.string (T.heap.size + 1)))).topJava?.isSome := by simpa using t1
      simp [jvm, afterInstr, t1, t2]
      rw [State.modifyTopJava_setTop]
      exact rest
set_option maxHeartbeats 16000000 in
/-- **ldc_w OF A CONSTANT OF EL, READ** (ldcCH's like; what is booked behind it is not told) -/
theorem own_ldcWE {vm0 : Vm} {own text : String} {index : Nat} (X : Stand p l e R (s.setVm vm0) m args below meth c T locs cells slots) (hx : p.tables.exec = Jvm.exec) (hZ : Z.Warmed39 vm0) (hown : vm0.findClass own = some m.cls) (w : (Jvm.Cond.stringLink own index text).before a0 Z = true) (wS : ∀ a ∈ Bundle.stringAtoms, a.before a0 Z = true)
    (eT : T.heap = h) {k0 : Nat} (hS : s.Since vm0 k0) (hk0 : k0 ≤ h.size) (hEL : EW Z a0 EL) (hmem : (own, index) ∈ EL) (H : CHv Z EL vm0 h)
    {vs : List Value} {z : Int32} (ht : (∀ c ∈ text.toList, c.toNat < 256) ∧ text.toList.map (fun c => Value.int (Jvm.Lit.byteI c.toNat.toUInt16)) = vs) (hz : ¬ z < 0) (hl : z.toNatClampNeg = vs.length)
    {g : JFrame} (hg : g.method = m) (hd : decode c.code g.pc = .ok (.ldc_w index, 3)) {n : Nat} (hn : 4 * text.toList.length ≤ n) (hbig : n ≤ 536870912) (hc' : cells + 2 ≤ R.cells) (hl' : slots + (n + 4) ≤ R.slots) :
    ∃ (a : Addr) (T' : State) (h' : Heap) (k1 : Nat) (b : Addr) (k : ClassId), Stand p l e R (s.setVm T'.vm) m args below meth c T' locs (cells + 2) (slots + (n + 4)) ∧ T'.heap = h' ∧ Ext h h' ∧ s.Since T'.vm k1 ∧ k1 ≤ h'.size ∧ Z.Warmed39 (s.setVm T'.vm).vm ∧ (s.setVm T'.vm).vm.findClass own = some m.cls ∧
      xS Z h' a ∧ fC Z h' a 0 ∧ fV Z h' a b ∧ Arv Z h' b k .byte z vs (.int 0) ∧
      ∀ target, Steps p.tables e below (T'.setTop { g with pc := g.pc + 3, stack := .ref a :: g.stack }) target → Steps p.tables e below (T.setTop g) target := by
  subst eT
  have A := (CHv.at X hZ hEL H).1
  obtain ⟨k, cf, i, units, hk, hcf, hc, hu, hnm, htext, hres⟩ := Cond.stringLink_spec (s := s.setVm vm0) (args := a0) hown (mvS (s := s) hZ w)
  obtain ⟨k', hk', -, -, ee, -⟩ := X.warmed.wide.2.2.2 _ k hk
  have hcf' : k'.cf = some cf := by
    obtain ⟨k2, q, r⟩ := X.warmed.alike.2.2 _ _ hk
    cases q.symm.trans hk'
    rw [r]; exact hcf
  have hfT : T.vm.findClass own = some m.cls := by rw [X.warmed.alike.findClass]; exact hown
  have hlat := Jvm.ClassFile.lat_of_text htext ht.1
  have by0 : (stringBytes units).size ≤ n := Nat.le_trans (text_bytes_le htext) hn
  have bk : ∀ a, (k'.resolved[index]? = some (some (.string a)) ∨ (k'.resolved[index]? = some none ∧ T.vm.interned.find? (fun p => p.1 == units) = some (units, a))) → SlOf (Wst Z T.vm T.heap) a units := fun a q => A _ hmem units a ⟨m.cls, k', cf, i, hfT, hk', hcf', hc, hu, q⟩
  have now : (k'.resolved[index]? = some none ∧ k.resolved[index]? = some none) ∨ ∃ a, k'.resolved[index]? = some (some (.string a)) := by
    rcases ee index with e0 | ⟨-, r, e1, hr | ⟨a, t, si, us, rfl, -⟩⟩
    · rcases hres with h0 | ⟨a, h0⟩
      · exact Or.inl ⟨e0.trans h0, h0⟩
      · exact Or.inr ⟨a, e0.trans h0⟩
    · exfalso
      have hk2 : vm0.classes[m.cls]? = some k := hk
      cases r <;> simp [State.rightAt, hk2, hcf, hnm] at hr
    · exact Or.inr ⟨a, e1⟩
  have key : ∃ (a : Addr) (U : State), Stand p l e R (s.setVm U.vm) m args below meth c U locs (cells + 2) (slots + (n + 4)) ∧ (s.setVm vm0).Since U.vm U.heap.size ∧ (∀ b, b < T.heap.size → U.heap[b]? = T.heap[b]?) ∧ SlOf (Wst Z U.vm U.heap) a units ∧
      (∀ target, Steps p.tables e below (U.setTop { g with pc := g.pc + 3, stack := .ref a :: g.stack }) target → Steps p.tables e below (T.setTop g) target) := by
    rcases now with ⟨o1, o0⟩ | ⟨a, hr⟩
    · cases hf : T.vm.interned.find? (fun p => p.1 == units) with
      | some pr =>
        obtain ⟨u', a⟩ := pr
        have eu' : u' = units := by simpa using Array.find?_some hf
        obtain rfl : units = u' := eu'.symm
        subst hg
        have W2 : (s.setVm vm0).Warmed39 (T.vm.noted g.method.cls index (.string a)) := X.warmed.wide.notedString (units := units) (text := text) (si := i) hk (Or.inl o0) (by rw [hcf]; exact hnm) (by rw [hcf]; exact hc) (by rw [hcf]; simp [ConstantPool.utf8?, hu]) hf
        refine ⟨a, T.setVm (T.vm.noted g.method.cls index (.string a)), (X.mono (by omega) (by omega)).retabled W2, ⟨W2, State.Booked.step (T₂ := T.setVm (T.vm.noted g.method.cls index (.string a))) (X.warmed.no_new_pair _) X.same.2.1 ⟨Nat.le_refl _, Or.inl rfl⟩⟩, fun _ _ => rfl, ?_, fun target rest => ?_⟩
        · exact (bk a (Or.inr ⟨o1, hf⟩)).moved (W := Wst Z (T.vm.noted g.method.cls index (.string a)) T.heap) (((State.Warmed39.refl T).notedString (units := units) (text := text) (si := i) hk' (Or.inl o1) (by rw [hcf']; exact hnm) (by rw [hcf']; exact hc) (by rw [hcf']; simp [ConstantPool.utf8?, hu]) hf).alike) (fun _ _ q => q)
        · jvm_step X.here [hx, hd, ldc_w.wp_string_found (e := e) (s := T) (f := g) X.here.top hk' hcf' hc hu o1 hf]
          exact rest
      | none =>
        have hSs : ∀ a ∈ Bundle.stringAtoms, a.before args (s.setVm vm0) = true := fun d hd => by
          have q := wS d hd
          simp only [Bundle.stringAtoms, List.mem_cons, List.not_mem_nil, or_false] at hd
          rcases hd with rfl | rfl | rfl | rfl | rfl | rfl | rfl
          all_goals first | exact mvA (s := s.setVm vm0) hZ q | exact RoadKit.mv (s := s.setVm vm0) hZ q
        obtain ⟨U, Y, hU, hb, F, st⟩ := own_ldcwNew X hx hSs hk hk' hcf hcf' hc hu hnm o0 o1 hf hlat hg hd by0 hbig hc' hl'
        obtain ⟨q, cS, r0, r1, r2, r3, r4, -⟩ := F
        exact ⟨_, U, Y, hU, hb, SlOf.moved (s := U) (W := Wst Z U.vm U.heap) ⟨q, cS, r0, r1, r2, r3, r4⟩ (Vm.Alike.refl _) (fun _ _ q => q), st⟩
    · subst hg
      refine ⟨a, T, (X.mono (by omega) (by omega)).retabled X.warmed.wide, X.warmed.since _, fun _ _ => rfl, bk a (Or.inl hr), fun target rest => ?_⟩
      jvm_step X.here [hx, hd, ldc_w.wp_string (e := e) (s := T) (f := g) X.here.top hk' hcf' hc hr]
      exact rest
  obtain ⟨a, U, Y, hU, hb, F, st⟩ := key
  have E := ext_of hb
  have hW : Z.Warmed39 U.vm := State.Warmed39.trans (t := s.setVm vm0) hZ hU.1
  obtain ⟨b, kk, r1, r2, r3, r4⟩ := own_slv hW F htext ht hz hl
  exact ⟨a, U, U.heap, U.heap.size, b, kk, Y, rfl, E, hS.trans hU (Nat.le_trans hk0 E.1), Nat.le_refl _, hW, by rw [show (s.setVm U.vm).vm = U.vm from rfl, hU.1.alike.findClass]; exact hown, r1, r2, r3, r4, st⟩
end OwnLdcW
theorem d16_4 : decode bc16 4 = .ok (.ldc 151, 2) := by decide +kernel
theorem d16_6 : decode bc16 6 = .ok (.areturn, 1) := by decide +kernel
theorem rmO0 {l : Launch} {Z : State} {a0 : Array Value} (hw : HW Z a0) {h0 : Heap} (tz : Addr) (n0 : Nat) (O0 : Old Z n0 h0) : ConE l Z own_EL my25 bc16 3 (some (.object "java/lang/String")) [] (ro 0 2 4 0) 2 4 #[(.ref tz), (.int 0), (.int 0)] h0 (fun v h L => ∃ x t k, v = some (.ref x) ∧ xS Z h x ∧ fV Z h x t ∧ fC Z h x 0 ∧ Arv Z h t k .byte (0 : Int32) [] (.int 0) ∧ Keep h0 h [] ∧ Fr n0 L) := by
  refine ConE.intro (plainFor_of_name pn_3) ?_
  intro p e s m below meth c s₁ X0 hx y hml hZ hown hnm hret hlk e0 hs0 hR0
  refine gs (fun _ k => castTop (ef_25 m tz (0 : Int32) (0 : Int32)) k) ?_
  have hS0 := (State.WarmedH.refl s).since 0
  have hk0 : 0 ≤ h0.size := Nat.zero_le _
  have K0 := Keep.refl h0 []
  show Gf p e below _ s₁ m 0 #[vr tz, vi 0, vi 0] []
  refine gs (fun _ k => XS.iloadN X0.here hx rfl (hb y d16_0) rfl (XS.ifNo X0.here hx rfl (hb y d16_1) rfl ((if0 _ _).trans (teq (by decide : (0 : Int32) = (0 : Int32))).2) k)) ?_
  obtain ⟨b1, T1, h1, k1, t1, kb1, X1, e1, E1, hS1, hk1, hZ, hown, Ea1, Ca1, Va1, Ba1, -, -, rr1, Li1, sf1, st1⟩ := ldcCH X0 hx hZ hown (w134 hw) (own_str hw) e0 hS0 hk0 (own_el hw) (by decide) hR0.1 (vs := (own_emp.map (fun c => c.toInt8.toInt32)).map Value.int) (z := Int32.ofNat own_emp.length) ⟨by decide, rfl⟩ (by decide) (by decide) (g := (mkF m 4 #[vr tz, vi 0, vi 0] [])) rfl (hb y d16_4) (n := 0) (by decide) (by decide) (by decide) (by decide)
  refine Gl.of st1 ?_
  have hR1 := hR0.trans rr1
  have SG1 : Strg Z h1 b1 t1 kb1 own_emp := ⟨Ea1, Va1, Ca1, Ba1, by decide, by decide⟩
  have O1 := O0.ext E1
  have K1 := K0.ext E1
  show Gf p e below _ T1 m 6 #[vr tz, vi 0, vi 0] [(.ref b1)]
  exact Gl.retRW X1 hx hlk hret rfl rfl (hb y d16_6) e1 (⟨_, _, _, rfl, SG1.1, SG1.2.1, SG1.2.2.1, SG1.2.2.2.1, K1, (Fr.nil n0)⟩) hS1 hk1 (by decide) (by decide)
theorem d34_4 : decode bc27 4 = .ok (.ldc_w 295, 3) := by decide +kernel
theorem d34_7 : decode bc27 7 = .ok (.areturn, 1) := by decide +kernel
theorem rmS80 {l : Launch} {Z : State} {a0 : Array Value} (hw : HW Z a0) {h0 : Heap} (tz : Addr) (n0 : Nat) (O0 : Old Z n0 h0) : ConE l Z own_EL my28 bc27 5 (some (.object "java/lang/String")) [] (ro 0 2 4 0) 2 4 #[(.ref tz), (.int 0), (.int 0)] h0 (fun v h L => ∃ x t k, v = some (.ref x) ∧ xS Z h x ∧ fV Z h x t ∧ fC Z h x 0 ∧ Arv Z h t k .byte (0 : Int32) [] (.int 0) ∧ Keep h0 h [] ∧ Fr n0 L) := by
  refine ConE.intro (plainFor_of_name pn_0) ?_
  intro p e s m below meth c s₁ X0 hx y hml hZ hown hnm hret hlk e0 hs0 hR0
  refine gs (fun _ k => castTop (ef_28 m tz (0 : Int32) (0 : Int32)) k) ?_
  have hS0 := (State.WarmedH.refl s).since 0
  have hk0 : 0 ≤ h0.size := Nat.zero_le _
  have K0 := Keep.refl h0 []
  show Gf p e below _ s₁ m 0 #[vr tz, vi 0, vi 0, vu, vu] []
  refine gs (fun _ k => XS.iloadN X0.here hx rfl (hb y d34_0) rfl (XS.ifNo X0.here hx rfl (hb y d34_1) rfl ((if0 _ _).trans (teq (by decide : (0 : Int32) = (0 : Int32))).2) k)) ?_
  show Gf p e below _ s₁ m 4 #[vr tz, vi 0, vi 0, vu, vu] []
  obtain ⟨b1, T1, h1, k1, t1, kb1, X1, e1, E1, hS1, hk1, hZ, hown, Ea1, Ca1, Va1, Ba1, st1⟩ := own_ldcWE X0 hx hZ hown (w187 hw) (own_str hw) e0 hS0 hk0 (own_el hw) (by decide) hR0.1 (vs := (own_emp.map (fun c => c.toInt8.toInt32)).map Value.int) (z := Int32.ofNat own_emp.length) ⟨by decide, rfl⟩ (by decide) (by decide) (g := (mkF m 4 #[vr tz, vi 0, vi 0, vu, vu] [])) rfl (hb y d34_4) (n := 0) (by decide) (by decide) (by decide) (by decide)
  refine Gl.of st1 ?_
  have SG1 : Strg Z h1 b1 t1 kb1 own_emp := ⟨Ea1, Va1, Ca1, Ba1, by decide, by decide⟩
  have O1 := O0.ext E1
  have K1 := K0.ext E1
  exact Gl.retRW X1 hx hlk hret rfl rfl (hb y d34_7) e1 (⟨_, _, _, rfl, SG1.1, SG1.2.1, SG1.2.2.1, SG1.2.2.2.1, K1, (Fr.nil n0)⟩) hS1 hk1 (by decide) (by decide)
theorem rmTE0 {l : Launch} {Z : State} {a0 : Array Value} (hw : HW Z a0) {h0 : Heap} (x1 t1 : Addr) (nn cz : Int32) (fm : Value) (n0 : Nat) (E1 : xS Z h0 x1) (Fv : fV Z h0 x1 t1) (Fc : fC Z h0 x1 0) (hN : Con l Z my16 bc12 1 (some .int) [] (ro 1 0 0 13) 0 0 #[(.ref x1)] h0 (Pur (fun v => v = some (.int nn)) h0)) (h3 : ¬ nn < (0 : Int32)) (h4 : ¬ (0 : Int32) = nn) (SC : sSC Z cz) (hcz : ¬ cz = 0) (SF : sSF Z fm) (rf : fm.isRef = true) (O0 : Old Z n0 h0) : ConE l Z own_EL my31 bc14 5 (some (.object "java/lang/String")) [] (ro 6 2 4 134) 2 4 #[(.ref x1), (.int 0), (.int 0)] h0 (fun v h L => ∃ x t k, v = some (.ref x) ∧ xS Z h x ∧ fV Z h x t ∧ fC Z h x 0 ∧ Arv Z h t k .byte (0 : Int32) [] (.int 0) ∧ Keep h0 h [] ∧ Fr n0 L) := by
  refine ConE.intro (plainFor_of_name pn_1) ?_
  intro p e s m below meth c s₁ X0 hx y hml hZ hown hnm hret hlk e0 hs0 hR0
  refine gs (fun _ k => castTop (ef_31 m x1 (0 : Int32) (0 : Int32)) k) ?_
  have hS0 := (State.WarmedH.refl s).since 0
  have hk0 : 0 ≤ h0.size := Nat.zero_le _
  have K0 := Keep.refl h0 []
  show Gf p e below _ s₁ m 0 #[vr x1, vi 0, vi 0, vu, vu] []
  refine gs (fun _ k => XS.aloadN X0.here hx rfl (hb y d10_0) rfl rfl k) ?_
  refine Gl.callV0 X0 hx hZ (y := my16) (z := my16) hown (w69 hw) (w70 hw) (notFace_of_selects (args := #[]) (mvT hZ (w72 hw))) (w72 hw) (w71 hw) (w73 hw) (w4 hw) (desc_ne (by decide)) (b := x1) (argsL := []) (rest := []) E1 (hN) 0 (by decide) (by decide) e0 hml.symm pd_20 rfl rfl (Nat.le_of_eq rfl) (hb y d10_1) (by decide) (by decide) ?_
  intro v1 T1 X1 e1 hv1
  subst hv1
  show Gf p e below _ T1 m 4 #[vr x1, vi 0, vi 0, vu, vu] [(.int nn)]
  refine gs (fun _ k => XS.istoreN X1.here hx rfl (hb y d10_4) rfl (l' := #[vr x1, vi 0, vi 0, vi nn, vu]) rfl (XS.iloadN X1.here hx rfl (hb y d10_5) rfl (XS.iloadN X1.here hx rfl (hb y d10_6) rfl (XS.iloadN X1.here hx rfl (hb y d10_7) rfl k)))) ?_
  refine Gl.callS0 X1 hx hZ (y := my30) hown (w79 hw) (w80 hw) (w4 hw) (w81 hw) (desc_ne (by decide)) (argsL := [(.int 0), (.int 0), (.int nn)]) (rest := []) (rmT2 hw (0 : Int32) (0 : Int32) nn fm n0 SF rf (by decide) (by decide) h3 O0) 0 (by decide) (by decide) e1 hml.symm pd_21 rfl rfl (Nat.le_of_eq rfl) (hb y d10_8) (by decide) (by decide) ?_
  intro v2 T2 X2 e2 hv2
  subst hv2
  show Gf p e below _ T2 m 11 #[vr x1, vi 0, vi 0, vi nn, vu] []
  refine gs (fun _ k => XS.iloadN X2.here hx rfl (hb y d10_11) rfl (XS.ifNo X2.here hx rfl (hb y d10_12) rfl ((if0 _ _).trans (teq (by decide : (0 : Int32) = (0 : Int32))).2) (XS.iloadN X2.here hx rfl (hb y d10_15) rfl (XS.iloadN X2.here hx rfl (hb y d10_16) rfl (XS.icmpYes X2.here hx rfl (pc0 := 17) (pc' := 22) rfl (hb y d10_17) rfl (feq h4).2 (by decide) (by decide) (XS.iloadN X2.here hx rfl (hb y d10_22) rfl k)))))) ?_
  show Gf p e below _ T2 m 23 #[vr x1, vi 0, vi 0, vi nn, vu] [(.int 0)]
  refine gs (fun _ k => XS.iloadN X2.here hx rfl (hb y d10_23) rfl (XS.isub X2.here hx rfl (hb y d10_24) rfl k)) ?_
  show Gf p e below _ T2 m 25 #[vr x1, vi 0, vi 0, vi nn, vu] [(.int 0)]
  refine gs (fun _ k => XS.istore X2.here hx rfl (hb y d10_25) rfl (l' := #[vr x1, vi 0, vi 0, vi nn, vi 0]) rfl (XS.aloadN X2.here hx rfl (hb y d10_27) rfl rfl k)) ?_
  refine Gl.callV0 X2 hx hZ (y := my12) (z := my12) hown (w87 hw) (w88 hw) (notFace_of_selects (args := #[]) (mvT hZ (w90 hw))) (w90 hw) (w89 hw) (w91 hw) (w4 hw) (desc_ne (by decide)) (b := x1) (argsL := []) (rest := []) E1 (rmQ0 hw x1 cz n0 Fc SC hcz O0) 0 (by decide) (by decide) e2 hml.symm pd_13 rfl rfl (Nat.le_of_eq rfl) (hb y d10_28) (by decide) (by decide) ?_
  intro v3 T3 X3 e3 hv3
  subst hv3
  show Gf p e below _ T3 m 31 #[vr x1, vi 0, vi 0, vi nn, vi 0] [(.int 1)]
  refine gs (fun _ k => XS.ifNo X3.here hx rfl (hb y d10_31) rfl ((if0 _ _).trans (feq (by decide : ¬ ((1 : Int32) = (0 : Int32)))).1) (XS.aloadN X3.here hx rfl (hb y d10_34) rfl rfl k)) ?_
  obtain ⟨T4, X4, e4, st4⟩ := getF X3 hx hZ hown (host := "") (Or.inl (w30 hw)) Via.refl e3 Fv (g := (mkF m 35 #[vr x1, vi 0, vi 0, vi nn, vi 0] [(.ref x1)])) rfl rfl (hb y d10_35)
  refine Gl.of st4 ?_
  show Gf p e below _ T4 m 38 #[vr x1, vi 0, vi 0, vi nn, vi 0] [(.ref t1)]
  refine gs (fun _ k => XS.iloadN X4.here hx rfl (hb y d10_38) rfl (XS.iload X4.here hx rfl (hb y d10_39) rfl k)) ?_
  refine Gl.callSE X4 hx hZ hS0 hk0 (own_el hw) hR0 (y := my25) hown (w92 hw) (w93 hw) (w94 hw) (w95 hw) (desc_ne (by decide)) (rm := ro 0 2 4 0) (argsL := [(.ref t1), (.int 0), (.int 0)]) (rest := []) (rmO0 hw t1 n0 O0) 0 (by decide) (by decide) (by decide) (by decide) e4 hml.symm pd_22 rfl rfl (Nat.le_of_eq rfl) (hb y d10_41) ?_
  intro v5 T5 L5 X5 hS5 hZ hown hQ5
  obtain ⟨x5, t5, k5, rfl, Ex5, Fv5, Fc5, Vq5, Kq5, Nq5⟩ := hQ5
  have N5 := Fr.app (Fr.nil n0) Nq5
  have ec6 := E1.keep Kq5
  have fc7 := Fv.keep Kq5 (by simp)
  have fc8 := Fc.keep Kq5 (by simp)
  have O5 := O0.keep Kq5 all0
  have K5 := K0.trans Kq5 (by intro x hx'; exact nomatch hx')
  have hk5 := Nat.le_trans hk0 Kq5.1
  show Gf p e below _ T5 m 44 #[vr x1, vi 0, vi 0, vi nn, vi 0] [(.ref x5)]
  refine gs (fun _ k => XS.goto X5.here hx rfl (pc0 := 44) (pc' := 57) rfl (hb y d10_44) (by decide) (by decide) k) ?_
  exact Gl.retRW X5 hx hlk hret rfl rfl (hb y d10_57) rfl (⟨_, _, _, rfl, Ex5, Fv5, Fc5, Vq5, K5, N5⟩) hS5 (Nat.le_refl _) (by decide) (by decide)
theorem rmTE1 {l : Launch} {Z : State} {a0 : Array Value} (hw : HW Z a0) {h0 : Heap} (x1 t1 : Addr) (nn cz : Int32) (fm : Value) (n0 : Nat) (E1 : xS Z h0 x1) (Fv : fV Z h0 x1 t1) (Fc : fC Z h0 x1 1) (hN : Con l Z my16 bc12 1 (some .int) [] (ro 1 0 0 13) 0 0 #[(.ref x1)] h0 (Pur (fun v => v = some (.int nn)) h0)) (h3 : ¬ nn < (0 : Int32)) (h4 : ¬ (0 : Int32) = nn) (SC : sSC Z cz) (hcz : ¬ cz = 0) (SF : sSF Z fm) (rf : fm.isRef = true) (O0 : Old Z n0 h0) : ConE l Z own_EL my31 bc14 5 (some (.object "java/lang/String")) [] (ro 6 2 4 134) 2 4 #[(.ref x1), (.int 0), (.int 0)] h0 (fun v h L => ∃ x t k, v = some (.ref x) ∧ xS Z h x ∧ fV Z h x t ∧ fC Z h x 0 ∧ Arv Z h t k .byte (0 : Int32) [] (.int 0) ∧ Keep h0 h [] ∧ Fr n0 L) := by
  refine ConE.intro (plainFor_of_name pn_1) ?_
  intro p e s m below meth c s₁ X0 hx y hml hZ hown hnm hret hlk e0 hs0 hR0
  refine gs (fun _ k => castTop (ef_31 m x1 (0 : Int32) (0 : Int32)) k) ?_
  have hS0 := (State.WarmedH.refl s).since 0
  have hk0 : 0 ≤ h0.size := Nat.zero_le _
  have K0 := Keep.refl h0 []
  show Gf p e below _ s₁ m 0 #[vr x1, vi 0, vi 0, vu, vu] []
  refine gs (fun _ k => XS.aloadN X0.here hx rfl (hb y d10_0) rfl rfl k) ?_
  refine Gl.callV0 X0 hx hZ (y := my16) (z := my16) hown (w69 hw) (w70 hw) (notFace_of_selects (args := #[]) (mvT hZ (w72 hw))) (w72 hw) (w71 hw) (w73 hw) (w4 hw) (desc_ne (by decide)) (b := x1) (argsL := []) (rest := []) E1 (hN) 0 (by decide) (by decide) e0 hml.symm pd_20 rfl rfl (Nat.le_of_eq rfl) (hb y d10_1) (by decide) (by decide) ?_
  intro v1 T1 X1 e1 hv1
  subst hv1
  show Gf p e below _ T1 m 4 #[vr x1, vi 0, vi 0, vu, vu] [(.int nn)]
  refine gs (fun _ k => XS.istoreN X1.here hx rfl (hb y d10_4) rfl (l' := #[vr x1, vi 0, vi 0, vi nn, vu]) rfl (XS.iloadN X1.here hx rfl (hb y d10_5) rfl (XS.iloadN X1.here hx rfl (hb y d10_6) rfl (XS.iloadN X1.here hx rfl (hb y d10_7) rfl k)))) ?_
  refine Gl.callS0 X1 hx hZ (y := my30) hown (w79 hw) (w80 hw) (w4 hw) (w81 hw) (desc_ne (by decide)) (argsL := [(.int 0), (.int 0), (.int nn)]) (rest := []) (rmT2 hw (0 : Int32) (0 : Int32) nn fm n0 SF rf (by decide) (by decide) h3 O0) 0 (by decide) (by decide) e1 hml.symm pd_21 rfl rfl (Nat.le_of_eq rfl) (hb y d10_8) (by decide) (by decide) ?_
  intro v2 T2 X2 e2 hv2
  subst hv2
  show Gf p e below _ T2 m 11 #[vr x1, vi 0, vi 0, vi nn, vu] []
  refine gs (fun _ k => XS.iloadN X2.here hx rfl (hb y d10_11) rfl (XS.ifNo X2.here hx rfl (hb y d10_12) rfl ((if0 _ _).trans (teq (by decide : (0 : Int32) = (0 : Int32))).2) (XS.iloadN X2.here hx rfl (hb y d10_15) rfl (XS.iloadN X2.here hx rfl (hb y d10_16) rfl (XS.icmpYes X2.here hx rfl (pc0 := 17) (pc' := 22) rfl (hb y d10_17) rfl (feq h4).2 (by decide) (by decide) (XS.iloadN X2.here hx rfl (hb y d10_22) rfl k)))))) ?_
  show Gf p e below _ T2 m 23 #[vr x1, vi 0, vi 0, vi nn, vu] [(.int 0)]
  refine gs (fun _ k => XS.iloadN X2.here hx rfl (hb y d10_23) rfl (XS.isub X2.here hx rfl (hb y d10_24) rfl k)) ?_
  show Gf p e below _ T2 m 25 #[vr x1, vi 0, vi 0, vi nn, vu] [(.int 0)]
  refine gs (fun _ k => XS.istore X2.here hx rfl (hb y d10_25) rfl (l' := #[vr x1, vi 0, vi 0, vi nn, vi 0]) rfl (XS.aloadN X2.here hx rfl (hb y d10_27) rfl rfl k)) ?_
  refine Gl.callV0 X2 hx hZ (y := my12) (z := my12) hown (w87 hw) (w88 hw) (notFace_of_selects (args := #[]) (mvT hZ (w90 hw))) (w90 hw) (w89 hw) (w91 hw) (w4 hw) (desc_ne (by decide)) (b := x1) (argsL := []) (rest := []) E1 (rmQ1 hw x1 cz n0 Fc SC hcz O0) 0 (by decide) (by decide) e2 hml.symm pd_13 rfl rfl (Nat.le_of_eq rfl) (hb y d10_28) (by decide) (by decide) ?_
  intro v3 T3 X3 e3 hv3
  subst hv3
  show Gf p e below _ T3 m 31 #[vr x1, vi 0, vi 0, vi nn, vi 0] [(.int 0)]
  refine gs (fun _ k => XS.ifYes X3.here hx rfl (pc0 := 31) (pc' := 47) rfl (hb y d10_31) rfl ((if0 _ _).trans (teq (by decide : (0 : Int32) = (0 : Int32))).1) (by decide) (by decide) (XS.aloadN X3.here hx rfl (hb y d10_47) rfl rfl k)) ?_
  obtain ⟨T4, X4, e4, st4⟩ := getF X3 hx hZ hown (host := "") (Or.inl (w30 hw)) Via.refl e3 Fv (g := (mkF m 48 #[vr x1, vi 0, vi 0, vi nn, vi 0] [(.ref x1)])) rfl rfl (hb y d10_48)
  refine Gl.of st4 ?_
  show Gf p e below _ T4 m 51 #[vr x1, vi 0, vi 0, vi nn, vi 0] [(.ref t1)]
  refine gs (fun _ k => XS.iloadN X4.here hx rfl (hb y d10_51) rfl (XS.iload X4.here hx rfl (hb y d10_52) rfl k)) ?_
  refine Gl.callSE X4 hx hZ hS0 hk0 (own_el hw) hR0 (y := my28) hown (w164 hw) (w165 hw) (w19 hw) (w166 hw) (desc_ne (by decide)) (rm := ro 0 2 4 0) (argsL := [(.ref t1), (.int 0), (.int 0)]) (rest := []) (rmS80 hw t1 n0 O0) 0 (by decide) (by decide) (by decide) (by decide) e4 hml.symm pd_22 rfl rfl (Nat.le_of_eq rfl) (hb y d10_54) ?_
  intro v5 T5 L5 X5 hS5 hZ hown hQ5
  obtain ⟨x5, t5, k5, rfl, Ex5, Fv5, Fc5, Vq5, Kq5, Nq5⟩ := hQ5
  have N5 := Fr.app (Fr.nil n0) Nq5
  have ec6 := E1.keep Kq5
  have fc7 := Fv.keep Kq5 (by simp)
  have fc8 := Fc.keep Kq5 (by simp)
  have O5 := O0.keep Kq5 all0
  have K5 := K0.trans Kq5 (by intro x hx'; exact nomatch hx')
  have hk5 := Nat.le_trans hk0 Kq5.1
  show Gf p e below _ T5 m 57 #[vr x1, vi 0, vi 0, vi nn, vi 0] [(.ref x5)]
  exact Gl.retRW X5 hx hlk hret rfl rfl (hb y d10_57) rfl (⟨_, _, _, rfl, Ex5, Fv5, Fc5, Vq5, K5, N5⟩) hS5 (Nat.le_refl _) (by decide) (by decide)
theorem rmN00 {l : Launch} {Z : State} {a0 : Array Value} (hw : HW Z a0) {h0 : Heap} (x1 t1 : Addr) (kB : ClassId) (cz : Int32) (n0 : Nat) (E1 : xS Z h0 x1) (Fv : fV Z h0 x1 t1) (Fc : fC Z h0 x1 0) (V1 : Arv Z h0 t1 kB .byte (0 : Int32) [] (.int 0)) (SC : sSC Z cz) (hcz : ¬ cz = 0) (O0 : Old Z n0 h0) : Con l Z my16 bc12 1 (some .int) [] (ro 1 0 0 13) 0 0 #[(.ref x1)] h0 (Pur (fun v => v = some (.int 0)) h0) := by
  refine Con.intro (plainFor_of_name pn_1) ?_
  intro p e s m below meth c s₁ X0 hx y hml hZ hown hnm hret hlk e0 hs0
  refine gs (fun _ k => castTop (ef_16 m x1) k) ?_
  show Gf p e below _ s₁ m 0 #[vr x1] []
  refine gs (fun _ k => XS.aloadN X0.here hx rfl (hb y d11_0) rfl rfl k) ?_
  obtain ⟨T1, X1, e1, st1⟩ := getF X0 hx hZ hown (host := "") (Or.inl (w30 hw)) Via.refl e0 Fv (g := (mkF m 1 #[vr x1] [(.ref x1)])) rfl rfl (hb y d11_1)
  refine Gl.of st1 ?_
  show Gf p e below _ T1 m 4 #[vr x1] [(.ref t1)]
  obtain ⟨zcl2, zAr2, zq2, zS2, zM2, zH2, zG2⟩ := id V1
  refine gs (fun _ k => X1.arraylength hx (by rw [e1]; exact (zAr2).1) (State.isArrayOf_alike hZ.alike (zAr2).2.1) (g := (mkF m 4 #[vr x1] [(.ref t1)])) rfl rfl (hb y d11_4) _ k) ?_
  rw [len_of zS2 (by decide)]
  show Gf p e below _ T1 m 5 #[vr x1] [(.int 0)]
  refine gs (fun _ k => XS.aloadN X1.here hx rfl (hb y d11_5) rfl rfl k) ?_
  refine Gl.callV0 X1 hx hZ (y := my11) (z := my11) hown (w74 hw) (w75 hw) (notFace_of_selects (args := #[]) (mvT hZ (w77 hw))) (w77 hw) (w76 hw) (w78 hw) (w4 hw) (desc_ne (by decide)) (b := x1) (argsL := []) (rest := [(.int 0)]) E1 (rmD0 hw x1 cz n0 Fc SC hcz O0) 1 (by decide) (by decide) e1 hml.symm pd_9 rfl rfl (Nat.le_of_eq rfl) (hb y d11_6) (by decide) (by decide) ?_
  intro v3 T3 X3 e3 hv3
  subst hv3
  show Gf p e below _ T3 m 9 #[vr x1] [(.int 0), (.int 0)]
  refine gs (fun _ k => XS.ishr X3.here hx rfl (hb y d11_9) rfl k) ?_
  exact Gl.retI X3 hx hlk hret (hb y d11_10) e3 (⟨rfl, rfl, rfl⟩) (by decide) (by decide)
theorem own_arB {Z : State} {a0 : Array Value} (h : (Jvm.Cond.arrayClass .byte).before a0 Z = true) : ∃ kB, Z.vm.findClass "[B" = some kB := by
  obtain ⟨c, k, comp, h1, -⟩ := Cond.arrayClass_spec h
  exact ⟨c, by first | exact h1 | (rw [show ("[B" : String) = "[" ++ FieldType.byte.toString from by decide]; exact h1)⟩
theorem own_md (x d : Int32) (hd : 0 < d.toInt) : 0 ≤ ((x &&& (2147483647 : Int32)) % d).toInt ∧ ((x &&& (2147483647 : Int32)) % d).toInt < d.toInt := by
  have h : (x &&& (2147483647 : Int32)).toInt = x.toInt % 2 ^ 31 := Jvm.Kit.i32_mask x 2147483647 (k := 31) (by decide) (by decide)
  rw [Int32.toInt_mod]
  have h3 : 0 ≤ (x &&& (2147483647 : Int32)).toInt := by rw [h]; omega
  rw [Int.tmod_eq_emod_of_nonneg h3]
  exact ⟨Int.emod_nonneg _ (by omega), Int.emod_lt_of_pos _ hd⟩
theorem own_rm1 (x : Int32) : ((x &&& (2147483647 : Int32)) % (1 : Int32)) = (0 : Int32) := by
  have h := own_md x (1 : Int32) (by decide)
  generalize ((x &&& (2147483647 : Int32)) % (1 : Int32)) = t at h ⊢
  have e : (1 : Int32).toInt = 1 := rfl
  rw [e] at h
  have q : t.toInt = 0 := by omega
  rcases q with q
  · exact (Int32.toInt_inj.mp (by rw [q]; rfl))
theorem own_rm2 (x : Int32) : ((x &&& (2147483647 : Int32)) % (2 : Int32)) = (0 : Int32) ∨ ((x &&& (2147483647 : Int32)) % (2 : Int32)) = (1 : Int32) := by
  have h := own_md x (2 : Int32) (by decide)
  generalize ((x &&& (2147483647 : Int32)) % (2 : Int32)) = t at h ⊢
  have e : (2 : Int32).toInt = 2 := rfl
  rw [e] at h
  have q : t.toInt = 0 ∨ t.toInt = 1 := by omega
  rcases q with q | q
  · exact Or.inl (Int32.toInt_inj.mp (by rw [q]; rfl))
  · exact Or.inr ((Int32.toInt_inj.mp (by rw [q]; rfl)))
theorem own_rm3 (x : Int32) : ((x &&& (2147483647 : Int32)) % (3 : Int32)) = (0 : Int32) ∨ ((x &&& (2147483647 : Int32)) % (3 : Int32)) = (1 : Int32) ∨ ((x &&& (2147483647 : Int32)) % (3 : Int32)) = (2 : Int32) := by
  have h := own_md x (3 : Int32) (by decide)
  generalize ((x &&& (2147483647 : Int32)) % (3 : Int32)) = t at h ⊢
  have e : (3 : Int32).toInt = 3 := rfl
  rw [e] at h
  have q : t.toInt = 0 ∨ t.toInt = 1 ∨ t.toInt = 2 := by omega
  rcases q with q | q | q
  · exact Or.inl (Int32.toInt_inj.mp (by rw [q]; rfl))
  · exact Or.inr (Or.inl (Int32.toInt_inj.mp (by rw [q]; rfl)))
  · exact Or.inr (Or.inr ((Int32.toInt_inj.mp (by rw [q]; rfl))))
theorem own_rm4 (x : Int32) : ((x &&& (2147483647 : Int32)) % (4 : Int32)) = (0 : Int32) ∨ ((x &&& (2147483647 : Int32)) % (4 : Int32)) = (1 : Int32) ∨ ((x &&& (2147483647 : Int32)) % (4 : Int32)) = (2 : Int32) ∨ ((x &&& (2147483647 : Int32)) % (4 : Int32)) = (3 : Int32) := by
  have h := own_md x (4 : Int32) (by decide)
  generalize ((x &&& (2147483647 : Int32)) % (4 : Int32)) = t at h ⊢
  have e : (4 : Int32).toInt = 4 := rfl
  rw [e] at h
  have q : t.toInt = 0 ∨ t.toInt = 1 ∨ t.toInt = 2 ∨ t.toInt = 3 := by omega
  rcases q with q | q | q | q
  · exact Or.inl (Int32.toInt_inj.mp (by rw [q]; rfl))
  · exact Or.inr (Or.inl (Int32.toInt_inj.mp (by rw [q]; rfl)))
  · exact Or.inr (Or.inr (Or.inl (Int32.toInt_inj.mp (by rw [q]; rfl))))
  · exact Or.inr (Or.inr (Or.inr ((Int32.toInt_inj.mp (by rw [q]; rfl)))))
theorem own_rm5 (x : Int32) : ((x &&& (2147483647 : Int32)) % (5 : Int32)) = (0 : Int32) ∨ ((x &&& (2147483647 : Int32)) % (5 : Int32)) = (1 : Int32) ∨ ((x &&& (2147483647 : Int32)) % (5 : Int32)) = (2 : Int32) ∨ ((x &&& (2147483647 : Int32)) % (5 : Int32)) = (3 : Int32) ∨ ((x &&& (2147483647 : Int32)) % (5 : Int32)) = (4 : Int32) := by
  have h := own_md x (5 : Int32) (by decide)
  generalize ((x &&& (2147483647 : Int32)) % (5 : Int32)) = t at h ⊢
  have e : (5 : Int32).toInt = 5 := rfl
  rw [e] at h
  have q : t.toInt = 0 ∨ t.toInt = 1 ∨ t.toInt = 2 ∨ t.toInt = 3 ∨ t.toInt = 4 := by omega
  rcases q with q | q | q | q | q
  · exact Or.inl (Int32.toInt_inj.mp (by rw [q]; rfl))
  · exact Or.inr (Or.inl (Int32.toInt_inj.mp (by rw [q]; rfl)))
  · exact Or.inr (Or.inr (Or.inl (Int32.toInt_inj.mp (by rw [q]; rfl))))
  · exact Or.inr (Or.inr (Or.inr (Or.inl (Int32.toInt_inj.mp (by rw [q]; rfl)))))
  · exact Or.inr (Or.inr (Or.inr (Or.inr ((Int32.toInt_inj.mp (by rw [q]; rfl))))))
theorem w118 (hw : HW Z a0) : (Jvm.Cond.methodLink "com/example/rulr/rulr/policy/MembershipSelectionPinLaw" (27 : Nat) ⟨"java/lang/String", "length", "()I"⟩).before a0 Z = true := hw _ (wm 118 rfl)
theorem tl0 (l : Launch) (Z : State) (a0 : Array Value) (hw : HW Z a0) {p : Program} {e : Env} {s : State} {m : MethodId} {args : Array Value} {below : List Frame} {meth : Method} {c : Code} {vm0 : Vm} {k0 : Nat} {T : State} {locs : List Loc} {h : Heap} {p1 p2 p3 p4 p5 p6 c0 c1 c2 c3 : Int32} {n0 : Nat} {x1 xq xm : Addr} {nn : Int32} (X : Stand p l e room_1 (s.setVm vm0) m args below meth c T locs 32 4288) (hx : p.tables.exec = Jvm.exec) (y : c.code = code) (hml : c.maxLocals = maxLocals) (hZ : Z.Warmed39 (s.setVm vm0).vm) (hown : (s.setVm vm0).vm.findClass "com/example/rulr/rulr/policy/MembershipSelectionPinLaw" = some m.cls) (hnm : meth.name = x.name) (hret : meth.sig.returnType = ret) (hlk : meth.locks = false) (eT : T.heap = h) (hS : s.Since vm0 k0) (hk : k0 ≤ h.size) (N : Fr n0 locs) (E1 : xS Z h x1) (hN : Con l Z my16 bc12 1 (some .int) [] (ro 1 0 0 13) 0 0 #[(.ref x1)] h (Pur (fun v => v = some (.int 0)) h)) (O0 : Old Z n0 h) : Gl p e below (GdW s (fun v h L => v = some (.int 1) ∧ Fr n0 L) 32 4288) (T.setTop (mkF m 219 #[vi p1, vi p2, vi p3, vi p4, vi p5, vi p6, vi c0, vi c1, vi c2, vi c3, vi nn, vr xq, vi 0, vr xm, vu] [(.ref x1)])) := by
  show Gf p e below _ T m 219 #[vi p1, vi p2, vi p3, vi p4, vi p5, vi p6, vi c0, vi c1, vi c2, vi c3, vi nn, vr xq, vi 0, vr xm, vu] [(.ref x1)]
  refine gs (fun _ k => XS.astore X.here hx rfl (hb y at_219) rfl rfl (l' := #[vi p1, vi p2, vi p3, vi p4, vi p5, vi p6, vi c0, vi c1, vi c2, vi c3, vi nn, vr xq, vi 0, vr xm, vr x1]) rfl (XS.aload X.here hx rfl (hb y at_221) rfl rfl (XS.ifnullNo X.here hx rfl (hb y at_223) rfl (XS.aload X.here hx rfl (hb y at_226) rfl rfl k)))) ?_
  refine Gl.callV0 X hx hZ (y := my16) (z := my16) hown (w118 hw) (w70 hw) (notFace_of_selects (args := #[]) (mvT hZ (w72 hw))) (w72 hw) (w71 hw) (w73 hw) (w4 hw) (desc_ne (by decide)) (b := x1) (argsL := []) (rest := []) E1 (hN) 0 (by decide) (by decide) eT hml.symm pd_20 rfl rfl (Nat.le_of_eq rfl) (hb y at_228) (by decide) (by decide) ?_
  intro v101 T101 X101 e101 hv101
  subst hv101
  show Gf p e below _ T101 m 231 #[vi p1, vi p2, vi p3, vi p4, vi p5, vi p6, vi c0, vi c1, vi c2, vi c3, vi nn, vr xq, vi 0, vr xm, vr x1] [(.int 0)]
  refine gs (fun _ k => XS.iload X101.here hx rfl (hb y at_231) rfl (XS.icmpYes X101.here hx rfl (pc0 := 233) (pc' := 238) rfl (hb y at_233) rfl (teq (by decide : (0 : Int32) = (0 : Int32))).1 (by decide) (by decide) (XS.iload X101.here hx rfl (hb y at_238) rfl (XS.ifYes X101.here hx rfl (pc0 := 240) (pc' := 256) rfl (hb y at_240) rfl ((if0 _ _).trans (flt (by decide : ¬ ((0 : Int32) < (0 : Int32)))).2.2.2) (by decide) (by decide) (XS.iload X101.here hx rfl (hb y at_256) rfl (XS.iconst X101.here hx rfl (hb y at_258) k)))))) ?_
  show Gf p e below _ T101 m 259 #[vi p1, vi p2, vi p3, vi p4, vi p5, vi p6, vi c0, vi c1, vi c2, vi c3, vi nn, vr xq, vi 0, vr xm, vr x1] [(.int 1), (.int 0)]
  refine gs (fun _ k => XS.icmpYes X101.here hx rfl (pc0 := 259) (pc' := 275) rfl (hb y at_259) rfl (flt (by decide : ¬ ((1 : Int32) < (0 : Int32)))).2.2.2 (by decide) (by decide) (XS.iload X101.here hx rfl (hb y at_275) rfl (XS.iconst X101.here hx rfl (hb y at_277) (XS.icmpYes X101.here hx rfl (pc0 := 278) (pc' := 294) rfl (hb y at_278) rfl (flt (by decide : ¬ ((2 : Int32) < (0 : Int32)))).2.2.2 (by decide) (by decide) (XS.iload X101.here hx rfl (hb y at_294) rfl (XS.iconst X101.here hx rfl (hb y at_296) k)))))) ?_
  show Gf p e below _ T101 m 297 #[vi p1, vi p2, vi p3, vi p4, vi p5, vi p6, vi c0, vi c1, vi c2, vi c3, vi nn, vr xq, vi 0, vr xm, vr x1] [(.int 3), (.int 0)]
  refine gs (fun _ k => XS.icmpYes X101.here hx rfl (pc0 := 297) (pc' := 313) rfl (hb y at_297) rfl (flt (by decide : ¬ ((3 : Int32) < (0 : Int32)))).2.2.2 (by decide) (by decide) (XS.iconst X101.here hx rfl (hb y at_313) k)) ?_
  exact Gl.retNW X101 hx hlk hret (by simp) (hb y at_314) e101 (⟨rfl, N⟩) hS hk (by decide) (by decide)
theorem pd_25 : parseMethodDescriptor "(I)C" = some ⟨[.int], some .char⟩ := by decide +kernel
theorem w122 (hw : HW Z a0) : (Jvm.Cond.selects "java/lang/String" ⟨"java/lang/String", "charAt", "(I)C"⟩ ⟨"java/lang/String", "charAt", "(I)C"⟩).before a0 Z = true := hw _ (wm 122 rfl)
theorem w119 (hw : HW Z a0) : (Jvm.Cond.methodLink "com/example/rulr/rulr/policy/MembershipSelectionPinLaw" (31 : Nat) ⟨"java/lang/String", "charAt", "(I)C"⟩).before a0 Z = true := hw _ (wm 119 rfl)
theorem w120 (hw : HW Z a0) : (Jvm.Cond.declares ⟨"java/lang/String", "charAt", "(I)C"⟩).before a0 Z = true := hw _ (wm 120 rfl)
theorem w121 (hw : HW Z a0) : (Jvm.Cond.instanceMethod ⟨"java/lang/String", "charAt", "(I)C"⟩).before a0 Z = true := hw _ (wm 121 rfl)
theorem w123 (hw : HW Z a0) : (Jvm.Cond.code ⟨"java/lang/String", "charAt", "(I)C"⟩ bc13 (2 : Nat) (Option.some Jvm.ClassFile.FieldType.char)).before a0 Z = true := hw _ (wm 123 rfl)
theorem tl1 (l : Launch) (Z : State) (a0 : Array Value) (hw : HW Z a0) {p : Program} {e : Env} {s : State} {m : MethodId} {args : Array Value} {below : List Frame} {meth : Method} {c : Code} {vm0 : Vm} {k0 : Nat} {T : State} {locs : List Loc} {h : Heap} {p1 p2 p3 p4 p5 p6 c0 c1 c2 c3 : Int32} {n0 : Nat} {x1 xq xm : Addr} {nn : Int32} (X : Stand p l e room_1 (s.setVm vm0) m args below meth c T locs 32 4288) (hx : p.tables.exec = Jvm.exec) (y : c.code = code) (hml : c.maxLocals = maxLocals) (hZ : Z.Warmed39 (s.setVm vm0).vm) (hown : (s.setVm vm0).vm.findClass "com/example/rulr/rulr/policy/MembershipSelectionPinLaw" = some m.cls) (hnm : meth.name = x.name) (hret : meth.sig.returnType = ret) (hlk : meth.locks = false) (eT : T.heap = h) (hS : s.Since vm0 k0) (hk : k0 ≤ h.size) (N : Fr n0 locs) (E1 : xS Z h x1) (hN : Con l Z my16 bc12 1 (some .int) [] (ro 1 0 0 13) 0 0 #[(.ref x1)] h (Pur (fun v => v = some (.int 1)) h)) (hC0 : Con l Z my20 bc13 2 (some .char) [] (ro 4 0 0 55) 0 0 #[(.ref x1), (.int 0)] h (Pur (fun v => v = some (.int c0)) h)) (O0 : Old Z n0 h) : Gl p e below (GdW s (fun v h L => v = some (.int 1) ∧ Fr n0 L) 32 4288) (T.setTop (mkF m 219 #[vi p1, vi p2, vi p3, vi p4, vi p5, vi p6, vi c0, vi c1, vi c2, vi c3, vi nn, vr xq, vi 1, vr xm, vu] [(.ref x1)])) := by
  show Gf p e below _ T m 219 #[vi p1, vi p2, vi p3, vi p4, vi p5, vi p6, vi c0, vi c1, vi c2, vi c3, vi nn, vr xq, vi 1, vr xm, vu] [(.ref x1)]
  refine gs (fun _ k => XS.astore X.here hx rfl (hb y at_219) rfl rfl (l' := #[vi p1, vi p2, vi p3, vi p4, vi p5, vi p6, vi c0, vi c1, vi c2, vi c3, vi nn, vr xq, vi 1, vr xm, vr x1]) rfl (XS.aload X.here hx rfl (hb y at_221) rfl rfl (XS.ifnullNo X.here hx rfl (hb y at_223) rfl (XS.aload X.here hx rfl (hb y at_226) rfl rfl k)))) ?_
  refine Gl.callV0 X hx hZ (y := my16) (z := my16) hown (w118 hw) (w70 hw) (notFace_of_selects (args := #[]) (mvT hZ (w72 hw))) (w72 hw) (w71 hw) (w73 hw) (w4 hw) (desc_ne (by decide)) (b := x1) (argsL := []) (rest := []) E1 (hN) 0 (by decide) (by decide) eT hml.symm pd_20 rfl rfl (Nat.le_of_eq rfl) (hb y at_228) (by decide) (by decide) ?_
  intro v101 T101 X101 e101 hv101
  subst hv101
  show Gf p e below _ T101 m 231 #[vi p1, vi p2, vi p3, vi p4, vi p5, vi p6, vi c0, vi c1, vi c2, vi c3, vi nn, vr xq, vi 1, vr xm, vr x1] [(.int 1)]
  refine gs (fun _ k => XS.iload X101.here hx rfl (hb y at_231) rfl (XS.icmpYes X101.here hx rfl (pc0 := 233) (pc' := 238) rfl (hb y at_233) rfl (teq (by decide : (1 : Int32) = (1 : Int32))).1 (by decide) (by decide) (XS.iload X101.here hx rfl (hb y at_238) rfl (XS.ifNo X101.here hx rfl (hb y at_240) rfl ((if0 _ _).trans (tlt (by decide : (0 : Int32) < (1 : Int32))).2.2.2) (XS.aload X101.here hx rfl (hb y at_243) rfl rfl (XS.iconst X101.here hx rfl (hb y at_245) k)))))) ?_
  show Gf p e below _ T101 m 246 #[vi p1, vi p2, vi p3, vi p4, vi p5, vi p6, vi c0, vi c1, vi c2, vi c3, vi nn, vr xq, vi 1, vr xm, vr x1] [(.int 0), (.ref x1)]
  refine Gl.callV0 X101 hx hZ (y := my20) (z := my20) hown (w119 hw) (w120 hw) (notFace_of_selects (args := #[]) (mvT hZ (w122 hw))) (w122 hw) (w121 hw) (w123 hw) (w4 hw) (desc_ne (by decide)) (b := x1) (argsL := [(.int 0)]) (rest := []) E1 (hC0) 0 (by decide) (by decide) e101 hml.symm pd_25 rfl rfl (Nat.le_of_eq rfl) (hb y at_246) (by decide) (by decide) ?_
  intro v102 T102 X102 e102 hv102
  subst hv102
  show Gf p e below _ T102 m 249 #[vi p1, vi p2, vi p3, vi p4, vi p5, vi p6, vi c0, vi c1, vi c2, vi c3, vi nn, vr xq, vi 1, vr xm, vr x1] [(.int c0)]
  refine gs (fun _ k => XS.iload X102.here hx rfl (hb y at_249) rfl (XS.icmpYes X102.here hx rfl (pc0 := 251) (pc' := 256) rfl (hb y at_251) rfl (teq (rfl : c0 = c0)).1 (by decide) (by decide) (XS.iload X102.here hx rfl (hb y at_256) rfl (XS.iconst X102.here hx rfl (hb y at_258) (XS.icmpYes X102.here hx rfl (pc0 := 259) (pc' := 275) rfl (hb y at_259) rfl (flt (by decide : ¬ ((1 : Int32) < (1 : Int32)))).2.2.2 (by decide) (by decide) (XS.iload X102.here hx rfl (hb y at_275) rfl k)))))) ?_
  show Gf p e below _ T102 m 277 #[vi p1, vi p2, vi p3, vi p4, vi p5, vi p6, vi c0, vi c1, vi c2, vi c3, vi nn, vr xq, vi 1, vr xm, vr x1] [(.int 1)]
  refine gs (fun _ k => XS.iconst X102.here hx rfl (hb y at_277) (XS.icmpYes X102.here hx rfl (pc0 := 278) (pc' := 294) rfl (hb y at_278) rfl (flt (by decide : ¬ ((2 : Int32) < (1 : Int32)))).2.2.2 (by decide) (by decide) (XS.iload X102.here hx rfl (hb y at_294) rfl (XS.iconst X102.here hx rfl (hb y at_296) (XS.icmpYes X102.here hx rfl (pc0 := 297) (pc' := 313) rfl (hb y at_297) rfl (flt (by decide : ¬ ((3 : Int32) < (1 : Int32)))).2.2.2 (by decide) (by decide) (XS.iconst X102.here hx rfl (hb y at_313) k)))))) ?_
  show Gf p e below _ T102 m 314 #[vi p1, vi p2, vi p3, vi p4, vi p5, vi p6, vi c0, vi c1, vi c2, vi c3, vi nn, vr xq, vi 1, vr xm, vr x1] [(.int 1)]
  exact Gl.retNW X102 hx hlk hret (by simp) (hb y at_314) e102 (⟨rfl, N⟩) hS hk (by decide) (by decide)
theorem tl2 (l : Launch) (Z : State) (a0 : Array Value) (hw : HW Z a0) {p : Program} {e : Env} {s : State} {m : MethodId} {args : Array Value} {below : List Frame} {meth : Method} {c : Code} {vm0 : Vm} {k0 : Nat} {T : State} {locs : List Loc} {h : Heap} {p1 p2 p3 p4 p5 p6 c0 c1 c2 c3 : Int32} {n0 : Nat} {x1 xq xm : Addr} {nn : Int32} (X : Stand p l e room_1 (s.setVm vm0) m args below meth c T locs 32 4288) (hx : p.tables.exec = Jvm.exec) (y : c.code = code) (hml : c.maxLocals = maxLocals) (hZ : Z.Warmed39 (s.setVm vm0).vm) (hown : (s.setVm vm0).vm.findClass "com/example/rulr/rulr/policy/MembershipSelectionPinLaw" = some m.cls) (hnm : meth.name = x.name) (hret : meth.sig.returnType = ret) (hlk : meth.locks = false) (eT : T.heap = h) (hS : s.Since vm0 k0) (hk : k0 ≤ h.size) (N : Fr n0 locs) (E1 : xS Z h x1) (hN : Con l Z my16 bc12 1 (some .int) [] (ro 1 0 0 13) 0 0 #[(.ref x1)] h (Pur (fun v => v = some (.int 2)) h)) (hC0 : Con l Z my20 bc13 2 (some .char) [] (ro 4 0 0 55) 0 0 #[(.ref x1), (.int 0)] h (Pur (fun v => v = some (.int c0)) h)) (hC1 : Con l Z my20 bc13 2 (some .char) [] (ro 4 0 0 55) 0 0 #[(.ref x1), (.int 1)] h (Pur (fun v => v = some (.int c1)) h)) (O0 : Old Z n0 h) : Gl p e below (GdW s (fun v h L => v = some (.int 1) ∧ Fr n0 L) 32 4288) (T.setTop (mkF m 219 #[vi p1, vi p2, vi p3, vi p4, vi p5, vi p6, vi c0, vi c1, vi c2, vi c3, vi nn, vr xq, vi 2, vr xm, vu] [(.ref x1)])) := by
  show Gf p e below _ T m 219 #[vi p1, vi p2, vi p3, vi p4, vi p5, vi p6, vi c0, vi c1, vi c2, vi c3, vi nn, vr xq, vi 2, vr xm, vu] [(.ref x1)]
  refine gs (fun _ k => XS.astore X.here hx rfl (hb y at_219) rfl rfl (l' := #[vi p1, vi p2, vi p3, vi p4, vi p5, vi p6, vi c0, vi c1, vi c2, vi c3, vi nn, vr xq, vi 2, vr xm, vr x1]) rfl (XS.aload X.here hx rfl (hb y at_221) rfl rfl (XS.ifnullNo X.here hx rfl (hb y at_223) rfl (XS.aload X.here hx rfl (hb y at_226) rfl rfl k)))) ?_
  refine Gl.callV0 X hx hZ (y := my16) (z := my16) hown (w118 hw) (w70 hw) (notFace_of_selects (args := #[]) (mvT hZ (w72 hw))) (w72 hw) (w71 hw) (w73 hw) (w4 hw) (desc_ne (by decide)) (b := x1) (argsL := []) (rest := []) E1 (hN) 0 (by decide) (by decide) eT hml.symm pd_20 rfl rfl (Nat.le_of_eq rfl) (hb y at_228) (by decide) (by decide) ?_
  intro v101 T101 X101 e101 hv101
  subst hv101
  show Gf p e below _ T101 m 231 #[vi p1, vi p2, vi p3, vi p4, vi p5, vi p6, vi c0, vi c1, vi c2, vi c3, vi nn, vr xq, vi 2, vr xm, vr x1] [(.int 2)]
  refine gs (fun _ k => XS.iload X101.here hx rfl (hb y at_231) rfl (XS.icmpYes X101.here hx rfl (pc0 := 233) (pc' := 238) rfl (hb y at_233) rfl (teq (by decide : (2 : Int32) = (2 : Int32))).1 (by decide) (by decide) (XS.iload X101.here hx rfl (hb y at_238) rfl (XS.ifNo X101.here hx rfl (hb y at_240) rfl ((if0 _ _).trans (tlt (by decide : (0 : Int32) < (2 : Int32))).2.2.2) (XS.aload X101.here hx rfl (hb y at_243) rfl rfl (XS.iconst X101.here hx rfl (hb y at_245) k)))))) ?_
  show Gf p e below _ T101 m 246 #[vi p1, vi p2, vi p3, vi p4, vi p5, vi p6, vi c0, vi c1, vi c2, vi c3, vi nn, vr xq, vi 2, vr xm, vr x1] [(.int 0), (.ref x1)]
  refine Gl.callV0 X101 hx hZ (y := my20) (z := my20) hown (w119 hw) (w120 hw) (notFace_of_selects (args := #[]) (mvT hZ (w122 hw))) (w122 hw) (w121 hw) (w123 hw) (w4 hw) (desc_ne (by decide)) (b := x1) (argsL := [(.int 0)]) (rest := []) E1 (hC0) 0 (by decide) (by decide) e101 hml.symm pd_25 rfl rfl (Nat.le_of_eq rfl) (hb y at_246) (by decide) (by decide) ?_
  intro v102 T102 X102 e102 hv102
  subst hv102
  show Gf p e below _ T102 m 249 #[vi p1, vi p2, vi p3, vi p4, vi p5, vi p6, vi c0, vi c1, vi c2, vi c3, vi nn, vr xq, vi 2, vr xm, vr x1] [(.int c0)]
  refine gs (fun _ k => XS.iload X102.here hx rfl (hb y at_249) rfl (XS.icmpYes X102.here hx rfl (pc0 := 251) (pc' := 256) rfl (hb y at_251) rfl (teq (rfl : c0 = c0)).1 (by decide) (by decide) (XS.iload X102.here hx rfl (hb y at_256) rfl (XS.iconst X102.here hx rfl (hb y at_258) (XS.icmpNo X102.here hx rfl (hb y at_259) rfl (tlt (by decide : (1 : Int32) < (2 : Int32))).2.2.2 (XS.aload X102.here hx rfl (hb y at_262) rfl rfl k)))))) ?_
  show Gf p e below _ T102 m 264 #[vi p1, vi p2, vi p3, vi p4, vi p5, vi p6, vi c0, vi c1, vi c2, vi c3, vi nn, vr xq, vi 2, vr xm, vr x1] [(.ref x1)]
  refine gs (fun _ k => XS.iconst X102.here hx rfl (hb y at_264) k) ?_
  refine Gl.callV0 X102 hx hZ (y := my20) (z := my20) hown (w119 hw) (w120 hw) (notFace_of_selects (args := #[]) (mvT hZ (w122 hw))) (w122 hw) (w121 hw) (w123 hw) (w4 hw) (desc_ne (by decide)) (b := x1) (argsL := [(.int 1)]) (rest := []) E1 (hC1) 0 (by decide) (by decide) e102 hml.symm pd_25 rfl rfl (Nat.le_of_eq rfl) (hb y at_265) (by decide) (by decide) ?_
  intro v103 T103 X103 e103 hv103
  subst hv103
  show Gf p e below _ T103 m 268 #[vi p1, vi p2, vi p3, vi p4, vi p5, vi p6, vi c0, vi c1, vi c2, vi c3, vi nn, vr xq, vi 2, vr xm, vr x1] [(.int c1)]
  refine gs (fun _ k => XS.iload X103.here hx rfl (hb y at_268) rfl (XS.icmpYes X103.here hx rfl (pc0 := 270) (pc' := 275) rfl (hb y at_270) rfl (teq (rfl : c1 = c1)).1 (by decide) (by decide) (XS.iload X103.here hx rfl (hb y at_275) rfl (XS.iconst X103.here hx rfl (hb y at_277) (XS.icmpYes X103.here hx rfl (pc0 := 278) (pc' := 294) rfl (hb y at_278) rfl (flt (by decide : ¬ ((2 : Int32) < (2 : Int32)))).2.2.2 (by decide) (by decide) (XS.iload X103.here hx rfl (hb y at_294) rfl k)))))) ?_
  show Gf p e below _ T103 m 296 #[vi p1, vi p2, vi p3, vi p4, vi p5, vi p6, vi c0, vi c1, vi c2, vi c3, vi nn, vr xq, vi 2, vr xm, vr x1] [(.int 2)]
  refine gs (fun _ k => XS.iconst X103.here hx rfl (hb y at_296) (XS.icmpYes X103.here hx rfl (pc0 := 297) (pc' := 313) rfl (hb y at_297) rfl (flt (by decide : ¬ ((3 : Int32) < (2 : Int32)))).2.2.2 (by decide) (by decide) (XS.iconst X103.here hx rfl (hb y at_313) k))) ?_
  exact Gl.retNW X103 hx hlk hret (by simp) (hb y at_314) e103 (⟨rfl, N⟩) hS hk (by decide) (by decide)
theorem tl3 (l : Launch) (Z : State) (a0 : Array Value) (hw : HW Z a0) {p : Program} {e : Env} {s : State} {m : MethodId} {args : Array Value} {below : List Frame} {meth : Method} {c : Code} {vm0 : Vm} {k0 : Nat} {T : State} {locs : List Loc} {h : Heap} {p1 p2 p3 p4 p5 p6 c0 c1 c2 c3 : Int32} {n0 : Nat} {x1 xq xm : Addr} {nn : Int32} (X : Stand p l e room_1 (s.setVm vm0) m args below meth c T locs 32 4288) (hx : p.tables.exec = Jvm.exec) (y : c.code = code) (hml : c.maxLocals = maxLocals) (hZ : Z.Warmed39 (s.setVm vm0).vm) (hown : (s.setVm vm0).vm.findClass "com/example/rulr/rulr/policy/MembershipSelectionPinLaw" = some m.cls) (hnm : meth.name = x.name) (hret : meth.sig.returnType = ret) (hlk : meth.locks = false) (eT : T.heap = h) (hS : s.Since vm0 k0) (hk : k0 ≤ h.size) (N : Fr n0 locs) (E1 : xS Z h x1) (hN : Con l Z my16 bc12 1 (some .int) [] (ro 1 0 0 13) 0 0 #[(.ref x1)] h (Pur (fun v => v = some (.int 3)) h)) (hC0 : Con l Z my20 bc13 2 (some .char) [] (ro 4 0 0 55) 0 0 #[(.ref x1), (.int 0)] h (Pur (fun v => v = some (.int c0)) h)) (hC1 : Con l Z my20 bc13 2 (some .char) [] (ro 4 0 0 55) 0 0 #[(.ref x1), (.int 1)] h (Pur (fun v => v = some (.int c1)) h)) (hC2 : Con l Z my20 bc13 2 (some .char) [] (ro 4 0 0 55) 0 0 #[(.ref x1), (.int 2)] h (Pur (fun v => v = some (.int c2)) h)) (O0 : Old Z n0 h) : Gl p e below (GdW s (fun v h L => v = some (.int 1) ∧ Fr n0 L) 32 4288) (T.setTop (mkF m 219 #[vi p1, vi p2, vi p3, vi p4, vi p5, vi p6, vi c0, vi c1, vi c2, vi c3, vi nn, vr xq, vi 3, vr xm, vu] [(.ref x1)])) := by
  show Gf p e below _ T m 219 #[vi p1, vi p2, vi p3, vi p4, vi p5, vi p6, vi c0, vi c1, vi c2, vi c3, vi nn, vr xq, vi 3, vr xm, vu] [(.ref x1)]
  refine gs (fun _ k => XS.astore X.here hx rfl (hb y at_219) rfl rfl (l' := #[vi p1, vi p2, vi p3, vi p4, vi p5, vi p6, vi c0, vi c1, vi c2, vi c3, vi nn, vr xq, vi 3, vr xm, vr x1]) rfl (XS.aload X.here hx rfl (hb y at_221) rfl rfl (XS.ifnullNo X.here hx rfl (hb y at_223) rfl (XS.aload X.here hx rfl (hb y at_226) rfl rfl k)))) ?_
  refine Gl.callV0 X hx hZ (y := my16) (z := my16) hown (w118 hw) (w70 hw) (notFace_of_selects (args := #[]) (mvT hZ (w72 hw))) (w72 hw) (w71 hw) (w73 hw) (w4 hw) (desc_ne (by decide)) (b := x1) (argsL := []) (rest := []) E1 (hN) 0 (by decide) (by decide) eT hml.symm pd_20 rfl rfl (Nat.le_of_eq rfl) (hb y at_228) (by decide) (by decide) ?_
  intro v101 T101 X101 e101 hv101
  subst hv101
  show Gf p e below _ T101 m 231 #[vi p1, vi p2, vi p3, vi p4, vi p5, vi p6, vi c0, vi c1, vi c2, vi c3, vi nn, vr xq, vi 3, vr xm, vr x1] [(.int 3)]
  refine gs (fun _ k => XS.iload X101.here hx rfl (hb y at_231) rfl (XS.icmpYes X101.here hx rfl (pc0 := 233) (pc' := 238) rfl (hb y at_233) rfl (teq (by decide : (3 : Int32) = (3 : Int32))).1 (by decide) (by decide) (XS.iload X101.here hx rfl (hb y at_238) rfl (XS.ifNo X101.here hx rfl (hb y at_240) rfl ((if0 _ _).trans (tlt (by decide : (0 : Int32) < (3 : Int32))).2.2.2) (XS.aload X101.here hx rfl (hb y at_243) rfl rfl (XS.iconst X101.here hx rfl (hb y at_245) k)))))) ?_
  show Gf p e below _ T101 m 246 #[vi p1, vi p2, vi p3, vi p4, vi p5, vi p6, vi c0, vi c1, vi c2, vi c3, vi nn, vr xq, vi 3, vr xm, vr x1] [(.int 0), (.ref x1)]
  refine Gl.callV0 X101 hx hZ (y := my20) (z := my20) hown (w119 hw) (w120 hw) (notFace_of_selects (args := #[]) (mvT hZ (w122 hw))) (w122 hw) (w121 hw) (w123 hw) (w4 hw) (desc_ne (by decide)) (b := x1) (argsL := [(.int 0)]) (rest := []) E1 (hC0) 0 (by decide) (by decide) e101 hml.symm pd_25 rfl rfl (Nat.le_of_eq rfl) (hb y at_246) (by decide) (by decide) ?_
  intro v102 T102 X102 e102 hv102
  subst hv102
  show Gf p e below _ T102 m 249 #[vi p1, vi p2, vi p3, vi p4, vi p5, vi p6, vi c0, vi c1, vi c2, vi c3, vi nn, vr xq, vi 3, vr xm, vr x1] [(.int c0)]
  refine gs (fun _ k => XS.iload X102.here hx rfl (hb y at_249) rfl (XS.icmpYes X102.here hx rfl (pc0 := 251) (pc' := 256) rfl (hb y at_251) rfl (teq (rfl : c0 = c0)).1 (by decide) (by decide) (XS.iload X102.here hx rfl (hb y at_256) rfl (XS.iconst X102.here hx rfl (hb y at_258) (XS.icmpNo X102.here hx rfl (hb y at_259) rfl (tlt (by decide : (1 : Int32) < (3 : Int32))).2.2.2 (XS.aload X102.here hx rfl (hb y at_262) rfl rfl k)))))) ?_
  show Gf p e below _ T102 m 264 #[vi p1, vi p2, vi p3, vi p4, vi p5, vi p6, vi c0, vi c1, vi c2, vi c3, vi nn, vr xq, vi 3, vr xm, vr x1] [(.ref x1)]
  refine gs (fun _ k => XS.iconst X102.here hx rfl (hb y at_264) k) ?_
  refine Gl.callV0 X102 hx hZ (y := my20) (z := my20) hown (w119 hw) (w120 hw) (notFace_of_selects (args := #[]) (mvT hZ (w122 hw))) (w122 hw) (w121 hw) (w123 hw) (w4 hw) (desc_ne (by decide)) (b := x1) (argsL := [(.int 1)]) (rest := []) E1 (hC1) 0 (by decide) (by decide) e102 hml.symm pd_25 rfl rfl (Nat.le_of_eq rfl) (hb y at_265) (by decide) (by decide) ?_
  intro v103 T103 X103 e103 hv103
  subst hv103
  show Gf p e below _ T103 m 268 #[vi p1, vi p2, vi p3, vi p4, vi p5, vi p6, vi c0, vi c1, vi c2, vi c3, vi nn, vr xq, vi 3, vr xm, vr x1] [(.int c1)]
  refine gs (fun _ k => XS.iload X103.here hx rfl (hb y at_268) rfl (XS.icmpYes X103.here hx rfl (pc0 := 270) (pc' := 275) rfl (hb y at_270) rfl (teq (rfl : c1 = c1)).1 (by decide) (by decide) (XS.iload X103.here hx rfl (hb y at_275) rfl (XS.iconst X103.here hx rfl (hb y at_277) (XS.icmpNo X103.here hx rfl (hb y at_278) rfl (tlt (by decide : (2 : Int32) < (3 : Int32))).2.2.2 (XS.aload X103.here hx rfl (hb y at_281) rfl rfl k)))))) ?_
  show Gf p e below _ T103 m 283 #[vi p1, vi p2, vi p3, vi p4, vi p5, vi p6, vi c0, vi c1, vi c2, vi c3, vi nn, vr xq, vi 3, vr xm, vr x1] [(.ref x1)]
  refine gs (fun _ k => XS.iconst X103.here hx rfl (hb y at_283) k) ?_
  refine Gl.callV0 X103 hx hZ (y := my20) (z := my20) hown (w119 hw) (w120 hw) (notFace_of_selects (args := #[]) (mvT hZ (w122 hw))) (w122 hw) (w121 hw) (w123 hw) (w4 hw) (desc_ne (by decide)) (b := x1) (argsL := [(.int 2)]) (rest := []) E1 (hC2) 0 (by decide) (by decide) e103 hml.symm pd_25 rfl rfl (Nat.le_of_eq rfl) (hb y at_284) (by decide) (by decide) ?_
  intro v104 T104 X104 e104 hv104
  subst hv104
  show Gf p e below _ T104 m 287 #[vi p1, vi p2, vi p3, vi p4, vi p5, vi p6, vi c0, vi c1, vi c2, vi c3, vi nn, vr xq, vi 3, vr xm, vr x1] [(.int c2)]
  refine gs (fun _ k => XS.iload X104.here hx rfl (hb y at_287) rfl (XS.icmpYes X104.here hx rfl (pc0 := 289) (pc' := 294) rfl (hb y at_289) rfl (teq (rfl : c2 = c2)).1 (by decide) (by decide) (XS.iload X104.here hx rfl (hb y at_294) rfl (XS.iconst X104.here hx rfl (hb y at_296) (XS.icmpYes X104.here hx rfl (pc0 := 297) (pc' := 313) rfl (hb y at_297) rfl (flt (by decide : ¬ ((3 : Int32) < (3 : Int32)))).2.2.2 (by decide) (by decide) (XS.iconst X104.here hx rfl (hb y at_313) k)))))) ?_
  show Gf p e below _ T104 m 314 #[vi p1, vi p2, vi p3, vi p4, vi p5, vi p6, vi c0, vi c1, vi c2, vi c3, vi nn, vr xq, vi 3, vr xm, vr x1] [(.int 1)]
  exact Gl.retNW X104 hx hlk hret (by simp) (hb y at_314) e104 (⟨rfl, N⟩) hS hk (by decide) (by decide)
theorem tl4 (l : Launch) (Z : State) (a0 : Array Value) (hw : HW Z a0) {p : Program} {e : Env} {s : State} {m : MethodId} {args : Array Value} {below : List Frame} {meth : Method} {c : Code} {vm0 : Vm} {k0 : Nat} {T : State} {locs : List Loc} {h : Heap} {p1 p2 p3 p4 p5 p6 c0 c1 c2 c3 : Int32} {n0 : Nat} {x1 xq xm : Addr} {nn : Int32} (X : Stand p l e room_1 (s.setVm vm0) m args below meth c T locs 32 4288) (hx : p.tables.exec = Jvm.exec) (y : c.code = code) (hml : c.maxLocals = maxLocals) (hZ : Z.Warmed39 (s.setVm vm0).vm) (hown : (s.setVm vm0).vm.findClass "com/example/rulr/rulr/policy/MembershipSelectionPinLaw" = some m.cls) (hnm : meth.name = x.name) (hret : meth.sig.returnType = ret) (hlk : meth.locks = false) (eT : T.heap = h) (hS : s.Since vm0 k0) (hk : k0 ≤ h.size) (N : Fr n0 locs) (E1 : xS Z h x1) (hN : Con l Z my16 bc12 1 (some .int) [] (ro 1 0 0 13) 0 0 #[(.ref x1)] h (Pur (fun v => v = some (.int 4)) h)) (hC0 : Con l Z my20 bc13 2 (some .char) [] (ro 4 0 0 55) 0 0 #[(.ref x1), (.int 0)] h (Pur (fun v => v = some (.int c0)) h)) (hC1 : Con l Z my20 bc13 2 (some .char) [] (ro 4 0 0 55) 0 0 #[(.ref x1), (.int 1)] h (Pur (fun v => v = some (.int c1)) h)) (hC2 : Con l Z my20 bc13 2 (some .char) [] (ro 4 0 0 55) 0 0 #[(.ref x1), (.int 2)] h (Pur (fun v => v = some (.int c2)) h)) (hC3 : Con l Z my20 bc13 2 (some .char) [] (ro 4 0 0 55) 0 0 #[(.ref x1), (.int 3)] h (Pur (fun v => v = some (.int c3)) h)) (O0 : Old Z n0 h) : Gl p e below (GdW s (fun v h L => v = some (.int 1) ∧ Fr n0 L) 32 4288) (T.setTop (mkF m 219 #[vi p1, vi p2, vi p3, vi p4, vi p5, vi p6, vi c0, vi c1, vi c2, vi c3, vi nn, vr xq, vi 4, vr xm, vu] [(.ref x1)])) := by
  show Gf p e below _ T m 219 #[vi p1, vi p2, vi p3, vi p4, vi p5, vi p6, vi c0, vi c1, vi c2, vi c3, vi nn, vr xq, vi 4, vr xm, vu] [(.ref x1)]
  refine gs (fun _ k => XS.astore X.here hx rfl (hb y at_219) rfl rfl (l' := #[vi p1, vi p2, vi p3, vi p4, vi p5, vi p6, vi c0, vi c1, vi c2, vi c3, vi nn, vr xq, vi 4, vr xm, vr x1]) rfl (XS.aload X.here hx rfl (hb y at_221) rfl rfl (XS.ifnullNo X.here hx rfl (hb y at_223) rfl (XS.aload X.here hx rfl (hb y at_226) rfl rfl k)))) ?_
  refine Gl.callV0 X hx hZ (y := my16) (z := my16) hown (w118 hw) (w70 hw) (notFace_of_selects (args := #[]) (mvT hZ (w72 hw))) (w72 hw) (w71 hw) (w73 hw) (w4 hw) (desc_ne (by decide)) (b := x1) (argsL := []) (rest := []) E1 (hN) 0 (by decide) (by decide) eT hml.symm pd_20 rfl rfl (Nat.le_of_eq rfl) (hb y at_228) (by decide) (by decide) ?_
  intro v101 T101 X101 e101 hv101
  subst hv101
  show Gf p e below _ T101 m 231 #[vi p1, vi p2, vi p3, vi p4, vi p5, vi p6, vi c0, vi c1, vi c2, vi c3, vi nn, vr xq, vi 4, vr xm, vr x1] [(.int 4)]
  refine gs (fun _ k => XS.iload X101.here hx rfl (hb y at_231) rfl (XS.icmpYes X101.here hx rfl (pc0 := 233) (pc' := 238) rfl (hb y at_233) rfl (teq (by decide : (4 : Int32) = (4 : Int32))).1 (by decide) (by decide) (XS.iload X101.here hx rfl (hb y at_238) rfl (XS.ifNo X101.here hx rfl (hb y at_240) rfl ((if0 _ _).trans (tlt (by decide : (0 : Int32) < (4 : Int32))).2.2.2) (XS.aload X101.here hx rfl (hb y at_243) rfl rfl (XS.iconst X101.here hx rfl (hb y at_245) k)))))) ?_
  show Gf p e below _ T101 m 246 #[vi p1, vi p2, vi p3, vi p4, vi p5, vi p6, vi c0, vi c1, vi c2, vi c3, vi nn, vr xq, vi 4, vr xm, vr x1] [(.int 0), (.ref x1)]
  refine Gl.callV0 X101 hx hZ (y := my20) (z := my20) hown (w119 hw) (w120 hw) (notFace_of_selects (args := #[]) (mvT hZ (w122 hw))) (w122 hw) (w121 hw) (w123 hw) (w4 hw) (desc_ne (by decide)) (b := x1) (argsL := [(.int 0)]) (rest := []) E1 (hC0) 0 (by decide) (by decide) e101 hml.symm pd_25 rfl rfl (Nat.le_of_eq rfl) (hb y at_246) (by decide) (by decide) ?_
  intro v102 T102 X102 e102 hv102
  subst hv102
  show Gf p e below _ T102 m 249 #[vi p1, vi p2, vi p3, vi p4, vi p5, vi p6, vi c0, vi c1, vi c2, vi c3, vi nn, vr xq, vi 4, vr xm, vr x1] [(.int c0)]
  refine gs (fun _ k => XS.iload X102.here hx rfl (hb y at_249) rfl (XS.icmpYes X102.here hx rfl (pc0 := 251) (pc' := 256) rfl (hb y at_251) rfl (teq (rfl : c0 = c0)).1 (by decide) (by decide) (XS.iload X102.here hx rfl (hb y at_256) rfl (XS.iconst X102.here hx rfl (hb y at_258) (XS.icmpNo X102.here hx rfl (hb y at_259) rfl (tlt (by decide : (1 : Int32) < (4 : Int32))).2.2.2 (XS.aload X102.here hx rfl (hb y at_262) rfl rfl k)))))) ?_
  show Gf p e below _ T102 m 264 #[vi p1, vi p2, vi p3, vi p4, vi p5, vi p6, vi c0, vi c1, vi c2, vi c3, vi nn, vr xq, vi 4, vr xm, vr x1] [(.ref x1)]
  refine gs (fun _ k => XS.iconst X102.here hx rfl (hb y at_264) k) ?_
  refine Gl.callV0 X102 hx hZ (y := my20) (z := my20) hown (w119 hw) (w120 hw) (notFace_of_selects (args := #[]) (mvT hZ (w122 hw))) (w122 hw) (w121 hw) (w123 hw) (w4 hw) (desc_ne (by decide)) (b := x1) (argsL := [(.int 1)]) (rest := []) E1 (hC1) 0 (by decide) (by decide) e102 hml.symm pd_25 rfl rfl (Nat.le_of_eq rfl) (hb y at_265) (by decide) (by decide) ?_
  intro v103 T103 X103 e103 hv103
  subst hv103
  show Gf p e below _ T103 m 268 #[vi p1, vi p2, vi p3, vi p4, vi p5, vi p6, vi c0, vi c1, vi c2, vi c3, vi nn, vr xq, vi 4, vr xm, vr x1] [(.int c1)]
  refine gs (fun _ k => XS.iload X103.here hx rfl (hb y at_268) rfl (XS.icmpYes X103.here hx rfl (pc0 := 270) (pc' := 275) rfl (hb y at_270) rfl (teq (rfl : c1 = c1)).1 (by decide) (by decide) (XS.iload X103.here hx rfl (hb y at_275) rfl (XS.iconst X103.here hx rfl (hb y at_277) (XS.icmpNo X103.here hx rfl (hb y at_278) rfl (tlt (by decide : (2 : Int32) < (4 : Int32))).2.2.2 (XS.aload X103.here hx rfl (hb y at_281) rfl rfl k)))))) ?_
  show Gf p e below _ T103 m 283 #[vi p1, vi p2, vi p3, vi p4, vi p5, vi p6, vi c0, vi c1, vi c2, vi c3, vi nn, vr xq, vi 4, vr xm, vr x1] [(.ref x1)]
  refine gs (fun _ k => XS.iconst X103.here hx rfl (hb y at_283) k) ?_
  refine Gl.callV0 X103 hx hZ (y := my20) (z := my20) hown (w119 hw) (w120 hw) (notFace_of_selects (args := #[]) (mvT hZ (w122 hw))) (w122 hw) (w121 hw) (w123 hw) (w4 hw) (desc_ne (by decide)) (b := x1) (argsL := [(.int 2)]) (rest := []) E1 (hC2) 0 (by decide) (by decide) e103 hml.symm pd_25 rfl rfl (Nat.le_of_eq rfl) (hb y at_284) (by decide) (by decide) ?_
  intro v104 T104 X104 e104 hv104
  subst hv104
  show Gf p e below _ T104 m 287 #[vi p1, vi p2, vi p3, vi p4, vi p5, vi p6, vi c0, vi c1, vi c2, vi c3, vi nn, vr xq, vi 4, vr xm, vr x1] [(.int c2)]
  refine gs (fun _ k => XS.iload X104.here hx rfl (hb y at_287) rfl (XS.icmpYes X104.here hx rfl (pc0 := 289) (pc' := 294) rfl (hb y at_289) rfl (teq (rfl : c2 = c2)).1 (by decide) (by decide) (XS.iload X104.here hx rfl (hb y at_294) rfl (XS.iconst X104.here hx rfl (hb y at_296) (XS.icmpNo X104.here hx rfl (hb y at_297) rfl (tlt (by decide : (3 : Int32) < (4 : Int32))).2.2.2 (XS.aload X104.here hx rfl (hb y at_300) rfl rfl k)))))) ?_
  show Gf p e below _ T104 m 302 #[vi p1, vi p2, vi p3, vi p4, vi p5, vi p6, vi c0, vi c1, vi c2, vi c3, vi nn, vr xq, vi 4, vr xm, vr x1] [(.ref x1)]
  refine gs (fun _ k => XS.iconst X104.here hx rfl (hb y at_302) k) ?_
  refine Gl.callV0 X104 hx hZ (y := my20) (z := my20) hown (w119 hw) (w120 hw) (notFace_of_selects (args := #[]) (mvT hZ (w122 hw))) (w122 hw) (w121 hw) (w123 hw) (w4 hw) (desc_ne (by decide)) (b := x1) (argsL := [(.int 3)]) (rest := []) E1 (hC3) 0 (by decide) (by decide) e104 hml.symm pd_25 rfl rfl (Nat.le_of_eq rfl) (hb y at_303) (by decide) (by decide) ?_
  intro v105 T105 X105 e105 hv105
  subst hv105
  show Gf p e below _ T105 m 306 #[vi p1, vi p2, vi p3, vi p4, vi p5, vi p6, vi c0, vi c1, vi c2, vi c3, vi nn, vr xq, vi 4, vr xm, vr x1] [(.int c3)]
  refine gs (fun _ k => XS.iload X105.here hx rfl (hb y at_306) rfl (XS.icmpYes X105.here hx rfl (pc0 := 308) (pc' := 313) rfl (hb y at_308) rfl (teq (rfl : c3 = c3)).1 (by decide) (by decide) (XS.iconst X105.here hx rfl (hb y at_313) k))) ?_
  exact Gl.retNW X105 hx hlk hret (by simp) (hb y at_314) e105 (⟨rfl, N⟩) hS hk (by decide) (by decide)
theorem w32 (hw : HW Z a0) : (Jvm.Cond.classLink "com/example/rulr/rulr/policy/MembershipSelectionPinLaw" (16 : Nat) "com/example/rulr/rulr/policy/SqlCondition$Membership").before a0 Z = true := hw _ (wm 32 rfl)
theorem w34 (hw : HW Z a0) : (Jvm.Cond.initialized "com/example/rulr/rulr/policy/SqlCondition$Membership").before a0 Z = true := hw _ (wm 34 rfl)
theorem pd_26 : parseMethodDescriptor "(Ljava/lang/String;Ljava/lang/String;Lcom/example/rulr/rulr/policy/SqlCondition$Span;IZI)V" = some ⟨[(.object "java/lang/String"), (.object "java/lang/String"), (.object "com/example/rulr/rulr/policy/SqlCondition$Span"), .int, .boolean, .int], none⟩ := by decide +kernel
theorem w38 (hw : HW Z a0) : (Jvm.Cond.methodLink "com/example/rulr/rulr/policy/MembershipSelectionPinLaw" (20 : Nat) ⟨"com/example/rulr/rulr/policy/SqlCondition$Membership", "<init>", "(Ljava/lang/String;Ljava/lang/String;Lcom/example/rulr/rulr/policy/SqlCondition$Span;IZI)V"⟩).before a0 Z = true := hw _ (wm 38 rfl)
theorem w39 (hw : HW Z a0) : (Jvm.Cond.instanceMethod ⟨"com/example/rulr/rulr/policy/SqlCondition$Membership", "<init>", "(Ljava/lang/String;Ljava/lang/String;Lcom/example/rulr/rulr/policy/SqlCondition$Span;IZI)V"⟩).before a0 Z = true := hw _ (wm 39 rfl)
theorem w40 (hw : HW Z a0) : (Jvm.Cond.code ⟨"com/example/rulr/rulr/policy/SqlCondition$Membership", "<init>", "(Ljava/lang/String;Ljava/lang/String;Lcom/example/rulr/rulr/policy/SqlCondition$Span;IZI)V"⟩ bc34 (7 : Nat) (Option.none : Option Jvm.ClassFile.FieldType)).before a0 Z = true := hw _ (wm 40 rfl)
theorem st184 (l : Launch) (Z : State) (a0 : Array Value) (hw : HW Z a0) {p : Program} {e : Env} {s : State} {m : MethodId} {args : Array Value} {below : List Frame} {meth : Method} {c : Code} {vm0 : Vm} {k0 : Nat} {T : State} {locs : List Loc} {h : Heap} {p1 p2 p3 p4 p5 p6 c0 c1 c2 c3 : Int32} {n0 : Nat} {x1 t1 : Addr} {kB : ClassId} {nn ss cd : Int32} {z : Int32} {vs : List Value} (X : Stand p l e room_1 (s.setVm vm0) m args below meth c T locs 4 20) (hx : p.tables.exec = Jvm.exec) (y : c.code = code) (hml : c.maxLocals = maxLocals) (hZ : Z.Warmed39 (s.setVm vm0).vm) (hown : (s.setVm vm0).vm.findClass "com/example/rulr/rulr/policy/MembershipSelectionPinLaw" = some m.cls) (hnm : meth.name = x.name) (hret : meth.sig.returnType = ret) (hlk : meth.locks = false) (eT : T.heap = h) (hS : s.Since vm0 k0) (hk : k0 ≤ h.size) (hR : CHr Z own_EL s.vm s.heap vm0 h) (N : Fr n0 locs) (E1 : xS Z h x1) (Fv : fV Z h x1 t1) (Fc : fC Z h x1 cd) (V1 : Arv Z h t1 kB .byte z vs (.int 0)) (k : ∀ (vm1 : Vm) (T1 : State) (lc : List Loc) (am : Addr) (kk : Nat), Stand p l e room_1 (s.setVm vm1) m args below meth c T1 lc 7 40 → s.Since vm1 kk → kk ≤ T1.heap.size → Z.Warmed39 (s.setVm vm1).vm → (s.setVm vm1).vm.findClass "com/example/rulr/rulr/policy/MembershipSelectionPinLaw" = some m.cls → CHr Z own_EL s.vm s.heap vm1 T1.heap → Fr n0 lc → Old Z n0 T1.heap → Exa Z T1.heap am "com/example/rulr/rulr/policy/SqlCondition$Membership" → Fld Z T1.heap am "com/example/rulr/rulr/policy/SqlCondition$Membership" "query" "Ljava/lang/String;" (.ref x1) → Fld Z T1.heap am "com/example/rulr/rulr/policy/SqlCondition$Membership" "selected" "I" (.int ss) → xS Z T1.heap x1 → fV Z T1.heap x1 t1 → fC Z T1.heap x1 cd → Arv Z T1.heap t1 kB .byte z vs (.int 0) → Gl p e below (GdW s (fun v h L => v = some (.int 1) ∧ Fr n0 L) 32 4288) (T1.setTop (mkF m 216 #[vi p1, vi p2, vi p3, vi p4, vi p5, vi p6, vi c0, vi c1, vi c2, vi c3, vi nn, vr x1, vi ss, vr am, vu] [(.ref am)]))) (O0 : Old Z n0 h) : Gl p e below (GdW s (fun v h L => v = some (.int 1) ∧ Fr n0 L) 32 4288) (T.setTop (mkF m 184 #[vi p1, vi p2, vi p3, vi p4, vi p5, vi p6, vi c0, vi c1, vi c2, vi c3, vi nn, vr x1, vi ss, vu, vu] [])) := by
  show Gf p e below _ T m 184 #[vi p1, vi p2, vi p3, vi p4, vi p5, vi p6, vi c0, vi c1, vi c2, vi c3, vi nn, vr x1, vi ss, vu, vu] []
  obtain ⟨T101, h101, X101, e101, E101, A101, D101, -, st101⟩ := newO X hx hZ hown (w32 hw) (w33 hw) (w34 hw) eT (g := (mkF m 184 #[vi p1, vi p2, vi p3, vi p4, vi p5, vi p6, vi c0, vi c1, vi c2, vi c3, vi nn, vr x1, vi ss, vu, vu] [])) rfl (hb y at_184) (by decide) (by decide)
  obtain ⟨b101, g101⟩ : ∃ z, z = h.size := ⟨_, rfl⟩
  rw [← g101] at A101 D101 st101
  refine Gl.of st101 ?_
  have Gb101 : n0 ≤ b101 := Nat.le_trans (O0.1 ▸ O0.2.1) (Nat.le_of_eq g101.symm)
  have ne_x1_b101 : x1 ≠ b101 := Nat.ne_of_lt (Nat.lt_of_lt_of_le E1.lt (Nat.le_of_eq g101.symm))
  have ne_t1_b101 : t1 ≠ b101 := Nat.ne_of_lt (Nat.lt_of_lt_of_le V1.lt (Nat.le_of_eq g101.symm))
  have ec102 := E1.ext E101
  have fc103 := Fv.ext E101
  have fc104 := Fc.ext E101
  have vc105 := V1.ext E101
  have O101 := O0.ext E101
  have hk101 := Nat.le_trans hk E101.1
  have F101_column : Fld Z h101 b101 "com/example/rulr/rulr/policy/SqlCondition$Membership" "column" "Ljava/lang/String;" .null := D101 (Or.inr (w48 hw)) (ty := (.object "java/lang/String")) (by decide)
  have F101_query : Fld Z h101 b101 "com/example/rulr/rulr/policy/SqlCondition$Membership" "query" "Ljava/lang/String;" .null := D101 (Or.inr (w50 hw)) (ty := (.object "java/lang/String")) (by decide)
  have F101_varying : Fld Z h101 b101 "com/example/rulr/rulr/policy/SqlCondition$Membership" "varying" "Lcom/example/rulr/rulr/policy/SqlCondition$Span;" .null := D101 (Or.inr (w52 hw)) (ty := (.object "com/example/rulr/rulr/policy/SqlCondition$Span")) (by decide)
  have F101_selected : Fld Z h101 b101 "com/example/rulr/rulr/policy/SqlCondition$Membership" "selected" "I" (.int 0) := D101 (Or.inr (w54 hw)) (ty := .int) (by decide)
  have F101_anchored : Fld Z h101 b101 "com/example/rulr/rulr/policy/SqlCondition$Membership" "anchored" "Z" (.int 0) := D101 (Or.inr (w56 hw)) (ty := .boolean) (by decide)
  have F101_joined : Fld Z h101 b101 "com/example/rulr/rulr/policy/SqlCondition$Membership" "joined" "I" (.int 0) := D101 (Or.inr (w58 hw)) (ty := .int) (by decide)
  show Gf p e below _ T101 m 187 #[vi p1, vi p2, vi p3, vi p4, vi p5, vi p6, vi c0, vi c1, vi c2, vi c3, vi nn, vr x1, vi ss, vu, vu] [(.ref b101)]
  refine gs (fun _ k => XS.dup X101.here hx rfl (hb y at_187) rfl rfl k) ?_
  have hRk := hR.trans (CHr.ext E101 hR.1)
  obtain ⟨b106, T106, h106, k106, t106, kb106, X106, e106, E106, hS106, hk106, hZ, hown, Ea106, Ca106, Va106, Ba106, -, -, rr106, Li106, sf106, st106⟩ := ldcCH X101 hx hZ hown (w35 hw) (own_str hw) e101 hS hk101 (own_el hw) (by decide) hRk.1 (vs := (own_c.map (fun c => c.toInt8.toInt32)).map Value.int) (z := Int32.ofNat own_c.length) ⟨by decide, rfl⟩ (by decide) (by decide) (g := (mkF m 188 #[vi p1, vi p2, vi p3, vi p4, vi p5, vi p6, vi c0, vi c1, vi c2, vi c3, vi nn, vr x1, vi ss, vu, vu] [(.ref b101), (.ref b101)])) rfl (hb y at_188) (n := 4) (by decide) (by decide) (by decide) (by decide)
  refine Gl.of st106 ?_
  have hR106 := hRk.trans rr106
  have SG106 : Strg Z h106 b106 t106 kb106 own_c := ⟨Ea106, Va106, Ca106, Ba106, by decide, by decide⟩
  have ec107 := ec102.ext E106
  have fc108 := fc103.ext E106
  have fc109 := fc104.ext E106
  have vc110 := vc105.ext E106
  have ec111 := A101.ext E106
  have fc112 := F101_column.ext E106
  have fc113 := F101_query.ext E106
  have fc114 := F101_varying.ext E106
  have fc115 := F101_selected.ext E106
  have fc116 := F101_anchored.ext E106
  have fc117 := F101_joined.ext E106
  have O106 := O101.ext E106
  show Gf p e below _ T106 m 190 #[vi p1, vi p2, vi p3, vi p4, vi p5, vi p6, vi c0, vi c1, vi c2, vi c3, vi nn, vr x1, vi ss, vu, vu] [(.ref b106), (.ref b101), (.ref b101)]
  refine gs (fun _ k => XS.aload X106.here hx rfl (hb y at_190) rfl rfl (XS.aconstNull X106.here hx rfl (hb y at_192) (XS.iload X106.here hx rfl (hb y at_193) rfl k))) ?_
  have J207 : ∀ z5 : Int32, Gl p e below (GdW s (fun v h L => v = some (.int 1) ∧ Fr n0 L) 32 4288) (T106.setTop (mkF m 207 #[vi p1, vi p2, vi p3, vi p4, vi p5, vi p6, vi c0, vi c1, vi c2, vi c3, vi nn, vr x1, vi ss, vu, vu] [(.int z5), (.int ss), .null, (.ref x1), (.ref b106), (.ref b101), (.ref b101)])) := by
    intro z5
    refine gs (fun _ k => XS.iload X106.here hx rfl (hb y at_207) rfl k) ?_
    refine Gl.callI X106 hx hZ (y := my33) rfl hown (w38 hw) (w39 hw) (w34 hw) (w40 hw) (desc_ne (by decide)) (rm := ro 2 0 0 25) (b := b101) (argsL := [(.ref b106), (.ref x1), .null, (.int ss), (.int z5), (.int p6)]) (rest := [(.ref b101)]) (rmM hw b101 b106 x1 ss z5 p6 n0 ec111 fc112 fc113 fc114 fc115 fc116 fc117 Gb101 O106) 1 (by decide) (by decide) (by decide) (by decide) e106 hml.symm pd_26 rfl rfl (Nat.le_of_eq rfl) (hb y at_209) ?_
    intro v118 T118 L118 X118 hQ118
    obtain ⟨rfl, Nq118, Kq118, Fq118, Fs118⟩ := hQ118
    have N118 := Fr.app N Nq118
    have hRm := hR106.trans (CHr.keep Kq118 (fun x hx => by cases List.mem_singleton.mp hx; exact Safe.exa hZ.alike ec111 (by decide) (by decide)) hR106.1)
    have ec119 := ec107.keep Kq118
    have fc120 := fc108.keep Kq118 (fun q => ne_x1_b101 (List.mem_singleton.mp q))
    have fc121 := fc109.keep Kq118 (fun q => ne_x1_b101 (List.mem_singleton.mp q))
    have vc122 := vc110.keep Kq118 (fun q => ne_t1_b101 (List.mem_singleton.mp q))
    have ec123 := ec111.keep Kq118
    have O118 := O106.keep Kq118 (allS Gb101 all0)
    have hk118 := Nat.le_trans hk106 Kq118.1
    show Gf p e below _ T118 m 212 #[vi p1, vi p2, vi p3, vi p4, vi p5, vi p6, vi c0, vi c1, vi c2, vi c3, vi nn, vr x1, vi ss, vu, vu] [(.ref b101)]
    refine gs (fun _ k => XS.astore X118.here hx rfl (hb y at_212) rfl rfl (l' := #[vi p1, vi p2, vi p3, vi p4, vi p5, vi p6, vi c0, vi c1, vi c2, vi c3, vi nn, vr x1, vi ss, vr b101, vu]) rfl (XS.aload X118.here hx rfl (hb y at_214) rfl rfl k)) ?_
    show Gf p e below _ T118 m 216 #[vi p1, vi p2, vi p3, vi p4, vi p5, vi p6, vi c0, vi c1, vi c2, vi c3, vi nn, vr x1, vi ss, vr b101, vu] [(.ref b101)]
    exact k _ _ _ _ _ (X118.mono (by decide) (by decide)) hS106 hk118 hZ hown hRm N118 O118 ec123 Fq118 Fs118 ec119 fc120 fc121 vc122
  refine gs (fun _ k => XS.iload X106.here hx rfl (hb y at_195) rfl (XS.iconst X106.here hx rfl (hb y at_197) (XS.iand X106.here hx rfl (hb y at_198) rfl k))) ?_
  show Gf p e below _ T106 m 199 #[vi p1, vi p2, vi p3, vi p4, vi p5, vi p6, vi c0, vi c1, vi c2, vi c3, vi nn, vr x1, vi ss, vu, vu] [(.int (p5 &&& (1 : Int32))), (.int ss), .null, (.ref x1), (.ref b106), (.ref b101), (.ref b101)]
  by_cases hc199_124 : (p5 &&& (1 : Int32)) = (0 : Int32)
  · refine Gl.of (fun _ kq_ => XS.ifYes X106.here hx rfl (pc0 := 199) (pc' := 206) rfl (hb y at_199) rfl ((if0 _ _).trans (teq hc199_124).1) (by decide) (by decide) kq_) ?_
    refine gs (fun _ k => XS.iconst X106.here hx rfl (hb y at_206) k) ?_
    show Gf p e below _ T106 m 207 #[vi p1, vi p2, vi p3, vi p4, vi p5, vi p6, vi c0, vi c1, vi c2, vi c3, vi nn, vr x1, vi ss, vu, vu] [(.int 0), (.int ss), .null, (.ref x1), (.ref b106), (.ref b101), (.ref b101)]
    exact J207 (0 : Int32)
  · refine Gl.of (fun _ kq_ => XS.ifNo X106.here hx rfl (hb y at_199) rfl ((if0 _ _).trans (feq hc199_124).1) kq_) ?_
    refine gs (fun _ k => XS.iconst X106.here hx rfl (hb y at_202) (XS.goto X106.here hx rfl (pc0 := 203) (pc' := 207) rfl (hb y at_203) (by decide) (by decide) k)) ?_
    show Gf p e below _ T106 m 207 #[vi p1, vi p2, vi p3, vi p4, vi p5, vi p6, vi c0, vi c1, vi c2, vi c3, vi nn, vr x1, vi ss, vu, vu] [(.int 1), (.int ss), .null, (.ref x1), (.ref b106), (.ref b101), (.ref b101)]
    exact J207 (1 : Int32)
theorem w1 (hw : HW Z a0) : (Jvm.Cond.constant "com/example/rulr/rulr/policy/MembershipSelectionPinLaw" (8 : Nat) (2147483647 : Int32)).before a0 Z = true := hw _ (wm 1 rfl)
theorem pd_27 : parseMethodDescriptor "()Ljava/lang/String;" = some ⟨[], some (.object "java/lang/String")⟩ := by decide +kernel
theorem w62 (hw : HW Z a0) : (Jvm.Cond.selects "com/example/rulr/rulr/policy/SqlCondition$Membership" ⟨"com/example/rulr/rulr/policy/SqlCondition$Membership", "selection", "()Ljava/lang/String;"⟩ ⟨"com/example/rulr/rulr/policy/SqlCondition$Membership", "selection", "()Ljava/lang/String;"⟩).before a0 Z = true := hw _ (wm 62 rfl)
theorem w59 (hw : HW Z a0) : (Jvm.Cond.methodLink "com/example/rulr/rulr/policy/MembershipSelectionPinLaw" (23 : Nat) ⟨"com/example/rulr/rulr/policy/SqlCondition$Membership", "selection", "()Ljava/lang/String;"⟩).before a0 Z = true := hw _ (wm 59 rfl)
theorem w60 (hw : HW Z a0) : (Jvm.Cond.declares ⟨"com/example/rulr/rulr/policy/SqlCondition$Membership", "selection", "()Ljava/lang/String;"⟩).before a0 Z = true := hw _ (wm 60 rfl)
theorem w61 (hw : HW Z a0) : (Jvm.Cond.instanceMethod ⟨"com/example/rulr/rulr/policy/SqlCondition$Membership", "selection", "()Ljava/lang/String;"⟩).before a0 Z = true := hw _ (wm 61 rfl)
theorem w63 (hw : HW Z a0) : (Jvm.Cond.code ⟨"com/example/rulr/rulr/policy/SqlCondition$Membership", "selection", "()Ljava/lang/String;"⟩ bc35 (1 : Nat) (Option.some (Jvm.ClassFile.FieldType.object "java/lang/String"))).before a0 Z = true := hw _ (wm 63 rfl)
theorem md00 (l : Launch) (Z : State) (a0 : Array Value) (hw : HW Z a0) {p : Program} {e : Env} {s : State} {m : MethodId} {args : Array Value} {below : List Frame} {meth : Method} {c : Code} {vm0 : Vm} {k0 : Nat} {T : State} {locs : List Loc} {h : Heap} {p1 p2 p3 p4 p5 p6 c0 c1 c2 c3 : Int32} {n0 : Nat} {cz : Int32} {fm : Value} {x1 t1 : Addr} {kB : ClassId} (X : Stand p l e room_1 (s.setVm vm0) m args below meth c T locs 4 20) (hx : p.tables.exec = Jvm.exec) (y : c.code = code) (hml : c.maxLocals = maxLocals) (hZ : Z.Warmed39 (s.setVm vm0).vm) (hown : (s.setVm vm0).vm.findClass "com/example/rulr/rulr/policy/MembershipSelectionPinLaw" = some m.cls) (hnm : meth.name = x.name) (hret : meth.sig.returnType = ret) (hlk : meth.locks = false) (eT : T.heap = h) (hS : s.Since vm0 k0) (hk : k0 ≤ h.size) (hR : CHr Z own_EL s.vm s.heap vm0 h) (N : Fr n0 locs) (E1 : xS Z h x1) (Fv : fV Z h x1 t1) (Fc : fC Z h x1 0) (V1 : Arv Z h t1 kB .byte (0 : Int32) [] (.int 0)) (SC : sSC Z cz) (hcz : ¬ cz = 0) (SF : sSF Z fm) (rf : fm.isRef = true) (Sa : sSa Z) (Sh : sSh Z) (Sl : sSl Z) (O0 : Old Z n0 h) : Gl p e below (GdW s (fun v h L => v = some (.int 1) ∧ Fr n0 L) 32 4288) (T.setTop (mkF m 173 #[vi p1, vi p2, vi p3, vi p4, vi p5, vi p6, vi c0, vi c1, vi c2, vi c3, vi 0, vr x1, vu, vu, vu] [])) := by
  show Gf p e below _ T m 173 #[vi p1, vi p2, vi p3, vi p4, vi p5, vi p6, vi c0, vi c1, vi c2, vi c3, vi 0, vr x1, vu, vu, vu] []
  refine gs (fun _ k => XS.iloadN X.here hx rfl (hb y at_173) rfl (X.ldcInt hx hown (mvT hZ (w1 hw)) (g := (mkF m 174 #[vi p1, vi p2, vi p3, vi p4, vi p5, vi p6, vi c0, vi c1, vi c2, vi c3, vi 0, vr x1, vu, vu, vu] [(.int p4)])) rfl (hb y at_174) _ (XS.iand X.here hx rfl (hb y at_176) rfl (XS.iload X.here hx rfl (hb y at_177) rfl (XS.iconst X.here hx rfl (hb y at_179) (XS.iadd X.here hx rfl (hb y at_180) rfl k)))))) ?_
  show Gf p e below _ T m 181 #[vi p1, vi p2, vi p3, vi p4, vi p5, vi p6, vi c0, vi c1, vi c2, vi c3, vi 0, vr x1, vu, vu, vu] [(.int 1), (.int (p4 &&& (2147483647 : Int32)))]
  refine gs (fun _ k => iremM X hx rfl (hb y at_181) rfl (by decide) (XS.istore X.here hx rfl (hb y at_182) rfl (l' := #[vi p1, vi p2, vi p3, vi p4, vi p5, vi p6, vi c0, vi c1, vi c2, vi c3, vi 0, vr x1, vi ((p4 &&& (2147483647 : Int32)) % (1 : Int32)), vu, vu]) rfl k)) ?_
  show Gf p e below _ T m 184 #[vi p1, vi p2, vi p3, vi p4, vi p5, vi p6, vi c0, vi c1, vi c2, vi c3, vi 0, vr x1, vi ((p4 &&& (2147483647 : Int32)) % (1 : Int32)), vu, vu] []
  suffices J184 : ∀ ss : Int32, (ss = (0 : Int32)) → Gl p e below (GdW s (fun v h L => v = some (.int 1) ∧ Fr n0 L) 32 4288) (T.setTop (mkF m 184 #[vi p1, vi p2, vi p3, vi p4, vi p5, vi p6, vi c0, vi c1, vi c2, vi c3, vi 0, vr x1, vi ss, vu, vu] [])) from J184 _ (own_rm1 p4)
  intro ss hs_
  refine st184 l Z a0 hw (X.mono (by decide) (by decide)) hx y hml hZ hown hnm hret hlk eT hS hk hR N E1 Fv Fc V1 ?_ O0
  intro vm1 T1 lc am kk1 X1 hS1 hk1 hZ hown hR1 N1 O1 Em Fq Fs E1 Fv Fc V1
  subst hs_
  refine Gl.callV0 X1 hx hZ (y := my34) (z := my34) hown (w59 hw) (w60 hw) (notFace_of_selects (args := #[]) (mvT hZ (w62 hw))) (w62 hw) (w61 hw) (w63 hw) (w34 hw) (desc_ne (by decide)) (b := am) (argsL := []) (rest := []) Em (rmSlP hw am x1 (0 : Int32) Fq Fs E1 (rmTP hw x1 (0 : Int32) fm n0 E1 (rmN00 hw x1 t1 kB cz n0 E1 Fv Fc V1 SC hcz O1) (by decide) SF rf O1)) 0 (by decide) (by decide) rfl hml.symm pd_27 rfl rfl (Nat.le_of_eq rfl) (hb y at_216) (by decide) (by decide) ?_
  intro v101 T101 X101 e101 hv101
  subst hv101
  show Gf p e below _ T101 m 219 #[vi p1, vi p2, vi p3, vi p4, vi p5, vi p6, vi c0, vi c1, vi c2, vi c3, vi 0, vr x1, vi 0, vr am, vu] [(.ref x1)]
  exact tl0 l Z a0 hw (X101.mono (by decide) (by decide)) hx y hml hZ hown hnm hret hlk e101 hS1 hk1 N1 E1 (rmN00 hw x1 t1 kB cz n0 E1 Fv Fc V1 SC hcz O1)  O1
theorem md10 (l : Launch) (Z : State) (a0 : Array Value) (hw : HW Z a0) {p : Program} {e : Env} {s : State} {m : MethodId} {args : Array Value} {below : List Frame} {meth : Method} {c : Code} {vm0 : Vm} {k0 : Nat} {T : State} {locs : List Loc} {h : Heap} {p1 p2 p3 p4 p5 p6 c0 c1 c2 c3 : Int32} {n0 : Nat} {cz : Int32} {fm : Value} {x1 t1 : Addr} {kB : ClassId} (X : Stand p l e room_1 (s.setVm vm0) m args below meth c T locs 4 20) (hx : p.tables.exec = Jvm.exec) (y : c.code = code) (hml : c.maxLocals = maxLocals) (hZ : Z.Warmed39 (s.setVm vm0).vm) (hown : (s.setVm vm0).vm.findClass "com/example/rulr/rulr/policy/MembershipSelectionPinLaw" = some m.cls) (hnm : meth.name = x.name) (hret : meth.sig.returnType = ret) (hlk : meth.locks = false) (eT : T.heap = h) (hS : s.Since vm0 k0) (hk : k0 ≤ h.size) (hR : CHr Z own_EL s.vm s.heap vm0 h) (N : Fr n0 locs) (hfb : Z.vm.findClass "[B" = some kB) (E1 : xS Z h x1) (Fv : fV Z h x1 t1) (Fc : fC Z h x1 0) (V1 : Arv Z h t1 kB .byte (1 : Int32) [.int (o8 c0)] (.int 0)) (hr0 : rg c0) (hl0 : ¬ (255 : Int32) < c0) (SC : sSC Z cz) (hcz : ¬ cz = 0) (SF : sSF Z fm) (rf : fm.isRef = true) (Sa : sSa Z) (Sh : sSh Z) (Sl : sSl Z) (O0 : Old Z n0 h) : Gl p e below (GdW s (fun v h L => v = some (.int 1) ∧ Fr n0 L) 32 4288) (T.setTop (mkF m 173 #[vi p1, vi p2, vi p3, vi p4, vi p5, vi p6, vi c0, vi c1, vi c2, vi c3, vi 1, vr x1, vu, vu, vu] [])) := by
  show Gf p e below _ T m 173 #[vi p1, vi p2, vi p3, vi p4, vi p5, vi p6, vi c0, vi c1, vi c2, vi c3, vi 1, vr x1, vu, vu, vu] []
  refine gs (fun _ k => XS.iloadN X.here hx rfl (hb y at_173) rfl (X.ldcInt hx hown (mvT hZ (w1 hw)) (g := (mkF m 174 #[vi p1, vi p2, vi p3, vi p4, vi p5, vi p6, vi c0, vi c1, vi c2, vi c3, vi 1, vr x1, vu, vu, vu] [(.int p4)])) rfl (hb y at_174) _ (XS.iand X.here hx rfl (hb y at_176) rfl (XS.iload X.here hx rfl (hb y at_177) rfl (XS.iconst X.here hx rfl (hb y at_179) (XS.iadd X.here hx rfl (hb y at_180) rfl k)))))) ?_
  show Gf p e below _ T m 181 #[vi p1, vi p2, vi p3, vi p4, vi p5, vi p6, vi c0, vi c1, vi c2, vi c3, vi 1, vr x1, vu, vu, vu] [(.int 2), (.int (p4 &&& (2147483647 : Int32)))]
  refine gs (fun _ k => iremM X hx rfl (hb y at_181) rfl (by decide) (XS.istore X.here hx rfl (hb y at_182) rfl (l' := #[vi p1, vi p2, vi p3, vi p4, vi p5, vi p6, vi c0, vi c1, vi c2, vi c3, vi 1, vr x1, vi ((p4 &&& (2147483647 : Int32)) % (2 : Int32)), vu, vu]) rfl k)) ?_
  show Gf p e below _ T m 184 #[vi p1, vi p2, vi p3, vi p4, vi p5, vi p6, vi c0, vi c1, vi c2, vi c3, vi 1, vr x1, vi ((p4 &&& (2147483647 : Int32)) % (2 : Int32)), vu, vu] []
  suffices J184 : ∀ ss : Int32, (ss = (0 : Int32) ∨ ss = (1 : Int32)) → Gl p e below (GdW s (fun v h L => v = some (.int 1) ∧ Fr n0 L) 32 4288) (T.setTop (mkF m 184 #[vi p1, vi p2, vi p3, vi p4, vi p5, vi p6, vi c0, vi c1, vi c2, vi c3, vi 1, vr x1, vi ss, vu, vu] [])) from J184 _ (own_rm2 p4)
  intro ss hs_
  refine st184 l Z a0 hw (X.mono (by decide) (by decide)) hx y hml hZ hown hnm hret hlk eT hS hk hR N E1 Fv Fc V1 ?_ O0
  intro vm1 T1 lc am kk1 X1 hS1 hk1 hZ hown hR1 N1 O1 Em Fq Fs E1 Fv Fc V1
  rcases hs_ with rfl | rfl
  · refine Gl.callVE X1 hx hZ hS1 hk1 (own_el hw) hR1 (y := my34) (z := my34) hown (w59 hw) (w60 hw) (notFace_of_selects (args := #[]) (mvT hZ (w62 hw))) (w62 hw) (w61 hw) (w63 hw) (w34 hw) (desc_ne (by decide)) (rm := ro 7 2 4 152) (b := am) (argsL := []) (rest := []) Em (rmSlE hw _ am x1 (0 : Int32) (fun _ _ _ ⟨x, _, _, q, _⟩ => ⟨x, q⟩) Fq Fs E1 (rmTE0 hw x1 t1 (1 : Int32) cz fm n0 E1 Fv Fc (rmN10 hw x1 t1 kB c0 cz n0 E1 Fv Fc V1 SC hcz O1) (by decide) (by decide) SC hcz SF rf O1)) 0 (by decide) (by decide) (by decide) (by decide) rfl hml.symm pd_27 rfl rfl (Nat.le_of_eq rfl) (hb y at_216) ?_
    intro v101 T101 L101 X101 hS101 hZ hown hQ101
    obtain ⟨x101, t101, k101, rfl, Ex101, Fv101, Fc101, Vq101, Kq101, Nq101⟩ := hQ101
    have N101 := Fr.app N1 Nq101
    have O101 := O1.keep Kq101 all0
    have hk101 := Nat.le_trans hk1 Kq101.1
    show Gf p e below _ T101 m 219 #[vi p1, vi p2, vi p3, vi p4, vi p5, vi p6, vi c0, vi c1, vi c2, vi c3, vi 1, vr x1, vi 0, vr am, vu] [(.ref x101)]
    exact tl0 l Z a0 hw (X101.mono (by decide) (by decide)) hx y hml hZ hown hnm hret hlk rfl hS101 (Nat.le_refl _) N101 Ex101 (rmN00 hw x101 t101 k101 cz n0 Ex101 Fv101 Fc101 Vq101 SC hcz O101)  O101
  · refine Gl.callV0 X1 hx hZ (y := my34) (z := my34) hown (w59 hw) (w60 hw) (notFace_of_selects (args := #[]) (mvT hZ (w62 hw))) (w62 hw) (w61 hw) (w63 hw) (w34 hw) (desc_ne (by decide)) (b := am) (argsL := []) (rest := []) Em (rmSlP hw am x1 (1 : Int32) Fq Fs E1 (rmTP hw x1 (1 : Int32) fm n0 E1 (rmN10 hw x1 t1 kB c0 cz n0 E1 Fv Fc V1 SC hcz O1) (by decide) SF rf O1)) 0 (by decide) (by decide) rfl hml.symm pd_27 rfl rfl (Nat.le_of_eq rfl) (hb y at_216) (by decide) (by decide) ?_
    intro v102 T102 X102 e102 hv102
    subst hv102
    show Gf p e below _ T102 m 219 #[vi p1, vi p2, vi p3, vi p4, vi p5, vi p6, vi c0, vi c1, vi c2, vi c3, vi 1, vr x1, vi 1, vr am, vu] [(.ref x1)]
    exact tl1 l Z a0 hw (X102.mono (by decide) (by decide)) hx y hml hZ hown hnm hret hlk e102 hS1 hk1 N1 E1 (rmN10 hw x1 t1 kB c0 cz n0 E1 Fv Fc V1 SC hcz O1) (rmCh0 hw x1 t1 (0 : Int32) c0 cz n0 E1 Fv Fc (rmW010 hw t1 kB c0 fm n0 V1 hr0 hl0 SF rf O1) hr0 SC hcz O1) O1
theorem md11 (l : Launch) (Z : State) (a0 : Array Value) (hw : HW Z a0) {p : Program} {e : Env} {s : State} {m : MethodId} {args : Array Value} {below : List Frame} {meth : Method} {c : Code} {vm0 : Vm} {k0 : Nat} {T : State} {locs : List Loc} {h : Heap} {p1 p2 p3 p4 p5 p6 c0 c1 c2 c3 : Int32} {n0 : Nat} {cz : Int32} {fm : Value} {x1 t1 : Addr} {kB : ClassId} (X : Stand p l e room_1 (s.setVm vm0) m args below meth c T locs 4 20) (hx : p.tables.exec = Jvm.exec) (y : c.code = code) (hml : c.maxLocals = maxLocals) (hZ : Z.Warmed39 (s.setVm vm0).vm) (hown : (s.setVm vm0).vm.findClass "com/example/rulr/rulr/policy/MembershipSelectionPinLaw" = some m.cls) (hnm : meth.name = x.name) (hret : meth.sig.returnType = ret) (hlk : meth.locks = false) (eT : T.heap = h) (hS : s.Since vm0 k0) (hk : k0 ≤ h.size) (hR : CHr Z own_EL s.vm s.heap vm0 h) (N : Fr n0 locs) (hfb : Z.vm.findClass "[B" = some kB) (E1 : xS Z h x1) (Fv : fV Z h x1 t1) (Fc : fC Z h x1 1) (V1 : Arv Z h t1 kB .byte (2 : Int32) [.int (oh c0), .int (ol c0)] (.int 0)) (hr0 : rg c0) (SC : sSC Z cz) (hcz : ¬ cz = 0) (SF : sSF Z fm) (rf : fm.isRef = true) (Sa : sSa Z) (Sh : sSh Z) (Sl : sSl Z) (O0 : Old Z n0 h) : Gl p e below (GdW s (fun v h L => v = some (.int 1) ∧ Fr n0 L) 32 4288) (T.setTop (mkF m 173 #[vi p1, vi p2, vi p3, vi p4, vi p5, vi p6, vi c0, vi c1, vi c2, vi c3, vi 1, vr x1, vu, vu, vu] [])) := by
  show Gf p e below _ T m 173 #[vi p1, vi p2, vi p3, vi p4, vi p5, vi p6, vi c0, vi c1, vi c2, vi c3, vi 1, vr x1, vu, vu, vu] []
  refine gs (fun _ k => XS.iloadN X.here hx rfl (hb y at_173) rfl (X.ldcInt hx hown (mvT hZ (w1 hw)) (g := (mkF m 174 #[vi p1, vi p2, vi p3, vi p4, vi p5, vi p6, vi c0, vi c1, vi c2, vi c3, vi 1, vr x1, vu, vu, vu] [(.int p4)])) rfl (hb y at_174) _ (XS.iand X.here hx rfl (hb y at_176) rfl (XS.iload X.here hx rfl (hb y at_177) rfl (XS.iconst X.here hx rfl (hb y at_179) (XS.iadd X.here hx rfl (hb y at_180) rfl k)))))) ?_
  show Gf p e below _ T m 181 #[vi p1, vi p2, vi p3, vi p4, vi p5, vi p6, vi c0, vi c1, vi c2, vi c3, vi 1, vr x1, vu, vu, vu] [(.int 2), (.int (p4 &&& (2147483647 : Int32)))]
  refine gs (fun _ k => iremM X hx rfl (hb y at_181) rfl (by decide) (XS.istore X.here hx rfl (hb y at_182) rfl (l' := #[vi p1, vi p2, vi p3, vi p4, vi p5, vi p6, vi c0, vi c1, vi c2, vi c3, vi 1, vr x1, vi ((p4 &&& (2147483647 : Int32)) % (2 : Int32)), vu, vu]) rfl k)) ?_
  show Gf p e below _ T m 184 #[vi p1, vi p2, vi p3, vi p4, vi p5, vi p6, vi c0, vi c1, vi c2, vi c3, vi 1, vr x1, vi ((p4 &&& (2147483647 : Int32)) % (2 : Int32)), vu, vu] []
  suffices J184 : ∀ ss : Int32, (ss = (0 : Int32) ∨ ss = (1 : Int32)) → Gl p e below (GdW s (fun v h L => v = some (.int 1) ∧ Fr n0 L) 32 4288) (T.setTop (mkF m 184 #[vi p1, vi p2, vi p3, vi p4, vi p5, vi p6, vi c0, vi c1, vi c2, vi c3, vi 1, vr x1, vi ss, vu, vu] [])) from J184 _ (own_rm2 p4)
  intro ss hs_
  refine st184 l Z a0 hw (X.mono (by decide) (by decide)) hx y hml hZ hown hnm hret hlk eT hS hk hR N E1 Fv Fc V1 ?_ O0
  intro vm1 T1 lc am kk1 X1 hS1 hk1 hZ hown hR1 N1 O1 Em Fq Fs E1 Fv Fc V1
  rcases hs_ with rfl | rfl
  · refine Gl.callVE X1 hx hZ hS1 hk1 (own_el hw) hR1 (y := my34) (z := my34) hown (w59 hw) (w60 hw) (notFace_of_selects (args := #[]) (mvT hZ (w62 hw))) (w62 hw) (w61 hw) (w63 hw) (w34 hw) (desc_ne (by decide)) (rm := ro 7 2 4 152) (b := am) (argsL := []) (rest := []) Em (rmSlE hw _ am x1 (0 : Int32) (fun _ _ _ ⟨x, _, _, q, _⟩ => ⟨x, q⟩) Fq Fs E1 (rmTE1 hw x1 t1 (1 : Int32) cz fm n0 E1 Fv Fc (rmN11 hw x1 t1 kB c0 cz n0 E1 Fv Fc V1 SC hcz O1) (by decide) (by decide) SC hcz SF rf O1)) 0 (by decide) (by decide) (by decide) (by decide) rfl hml.symm pd_27 rfl rfl (Nat.le_of_eq rfl) (hb y at_216) ?_
    intro v101 T101 L101 X101 hS101 hZ hown hQ101
    obtain ⟨x101, t101, k101, rfl, Ex101, Fv101, Fc101, Vq101, Kq101, Nq101⟩ := hQ101
    have N101 := Fr.app N1 Nq101
    have O101 := O1.keep Kq101 all0
    have hk101 := Nat.le_trans hk1 Kq101.1
    show Gf p e below _ T101 m 219 #[vi p1, vi p2, vi p3, vi p4, vi p5, vi p6, vi c0, vi c1, vi c2, vi c3, vi 1, vr x1, vi 0, vr am, vu] [(.ref x101)]
    exact tl0 l Z a0 hw (X101.mono (by decide) (by decide)) hx y hml hZ hown hnm hret hlk rfl hS101 (Nat.le_refl _) N101 Ex101 (rmN00 hw x101 t101 k101 cz n0 Ex101 Fv101 Fc101 Vq101 SC hcz O101)  O101
  · refine Gl.callV0 X1 hx hZ (y := my34) (z := my34) hown (w59 hw) (w60 hw) (notFace_of_selects (args := #[]) (mvT hZ (w62 hw))) (w62 hw) (w61 hw) (w63 hw) (w34 hw) (desc_ne (by decide)) (b := am) (argsL := []) (rest := []) Em (rmSlP hw am x1 (1 : Int32) Fq Fs E1 (rmTP hw x1 (1 : Int32) fm n0 E1 (rmN11 hw x1 t1 kB c0 cz n0 E1 Fv Fc V1 SC hcz O1) (by decide) SF rf O1)) 0 (by decide) (by decide) rfl hml.symm pd_27 rfl rfl (Nat.le_of_eq rfl) (hb y at_216) (by decide) (by decide) ?_
    intro v102 T102 X102 e102 hv102
    subst hv102
    show Gf p e below _ T102 m 219 #[vi p1, vi p2, vi p3, vi p4, vi p5, vi p6, vi c0, vi c1, vi c2, vi c3, vi 1, vr x1, vi 1, vr am, vu] [(.ref x1)]
    exact tl1 l Z a0 hw (X102.mono (by decide) (by decide)) hx y hml hZ hown hnm hret hlk e102 hS1 hk1 N1 E1 (rmN11 hw x1 t1 kB c0 cz n0 E1 Fv Fc V1 SC hcz O1) (rmCh1 hw x1 t1 (0 : Int32) c0 cz n0 E1 Fv Fc (rmW1 hw t1 (0 : Int32) c0 (rmX4 hw t1 (0 : Int32) (1 : Int32) fm n0 (rmX31 hw t1 kB _ V1) (by decide) (by decide) SF rf O1) (rmG10 hw t1 kB c0 n0 V1 hr0 Sa Sh Sl O1) hr0) hr0 SC hcz O1) O1
theorem md20 (l : Launch) (Z : State) (a0 : Array Value) (hw : HW Z a0) {p : Program} {e : Env} {s : State} {m : MethodId} {args : Array Value} {below : List Frame} {meth : Method} {c : Code} {vm0 : Vm} {k0 : Nat} {T : State} {locs : List Loc} {h : Heap} {p1 p2 p3 p4 p5 p6 c0 c1 c2 c3 : Int32} {n0 : Nat} {cz : Int32} {fm : Value} {x1 t1 : Addr} {kB : ClassId} (X : Stand p l e room_1 (s.setVm vm0) m args below meth c T locs 4 20) (hx : p.tables.exec = Jvm.exec) (y : c.code = code) (hml : c.maxLocals = maxLocals) (hZ : Z.Warmed39 (s.setVm vm0).vm) (hown : (s.setVm vm0).vm.findClass "com/example/rulr/rulr/policy/MembershipSelectionPinLaw" = some m.cls) (hnm : meth.name = x.name) (hret : meth.sig.returnType = ret) (hlk : meth.locks = false) (eT : T.heap = h) (hS : s.Since vm0 k0) (hk : k0 ≤ h.size) (hR : CHr Z own_EL s.vm s.heap vm0 h) (N : Fr n0 locs) (hfb : Z.vm.findClass "[B" = some kB) (E1 : xS Z h x1) (Fv : fV Z h x1 t1) (Fc : fC Z h x1 0) (V1 : Arv Z h t1 kB .byte (2 : Int32) [.int (o8 c0), .int (o8 c1)] (.int 0)) (hr0 : rg c0) (hr1 : rg c1) (hl0 : ¬ (255 : Int32) < c0) (hl1 : ¬ (255 : Int32) < c1) (SC : sSC Z cz) (hcz : ¬ cz = 0) (SF : sSF Z fm) (rf : fm.isRef = true) (Sa : sSa Z) (Sh : sSh Z) (Sl : sSl Z) (O0 : Old Z n0 h) : Gl p e below (GdW s (fun v h L => v = some (.int 1) ∧ Fr n0 L) 32 4288) (T.setTop (mkF m 173 #[vi p1, vi p2, vi p3, vi p4, vi p5, vi p6, vi c0, vi c1, vi c2, vi c3, vi 2, vr x1, vu, vu, vu] [])) := by
  show Gf p e below _ T m 173 #[vi p1, vi p2, vi p3, vi p4, vi p5, vi p6, vi c0, vi c1, vi c2, vi c3, vi 2, vr x1, vu, vu, vu] []
  refine gs (fun _ k => XS.iloadN X.here hx rfl (hb y at_173) rfl (X.ldcInt hx hown (mvT hZ (w1 hw)) (g := (mkF m 174 #[vi p1, vi p2, vi p3, vi p4, vi p5, vi p6, vi c0, vi c1, vi c2, vi c3, vi 2, vr x1, vu, vu, vu] [(.int p4)])) rfl (hb y at_174) _ (XS.iand X.here hx rfl (hb y at_176) rfl (XS.iload X.here hx rfl (hb y at_177) rfl (XS.iconst X.here hx rfl (hb y at_179) (XS.iadd X.here hx rfl (hb y at_180) rfl k)))))) ?_
  show Gf p e below _ T m 181 #[vi p1, vi p2, vi p3, vi p4, vi p5, vi p6, vi c0, vi c1, vi c2, vi c3, vi 2, vr x1, vu, vu, vu] [(.int 3), (.int (p4 &&& (2147483647 : Int32)))]
  refine gs (fun _ k => iremM X hx rfl (hb y at_181) rfl (by decide) (XS.istore X.here hx rfl (hb y at_182) rfl (l' := #[vi p1, vi p2, vi p3, vi p4, vi p5, vi p6, vi c0, vi c1, vi c2, vi c3, vi 2, vr x1, vi ((p4 &&& (2147483647 : Int32)) % (3 : Int32)), vu, vu]) rfl k)) ?_
  show Gf p e below _ T m 184 #[vi p1, vi p2, vi p3, vi p4, vi p5, vi p6, vi c0, vi c1, vi c2, vi c3, vi 2, vr x1, vi ((p4 &&& (2147483647 : Int32)) % (3 : Int32)), vu, vu] []
  suffices J184 : ∀ ss : Int32, (ss = (0 : Int32) ∨ ss = (1 : Int32) ∨ ss = (2 : Int32)) → Gl p e below (GdW s (fun v h L => v = some (.int 1) ∧ Fr n0 L) 32 4288) (T.setTop (mkF m 184 #[vi p1, vi p2, vi p3, vi p4, vi p5, vi p6, vi c0, vi c1, vi c2, vi c3, vi 2, vr x1, vi ss, vu, vu] [])) from J184 _ (own_rm3 p4)
  intro ss hs_
  refine st184 l Z a0 hw (X.mono (by decide) (by decide)) hx y hml hZ hown hnm hret hlk eT hS hk hR N E1 Fv Fc V1 ?_ O0
  intro vm1 T1 lc am kk1 X1 hS1 hk1 hZ hown hR1 N1 O1 Em Fq Fs E1 Fv Fc V1
  rcases hs_ with rfl | rfl | rfl
  · refine Gl.callVE X1 hx hZ hS1 hk1 (own_el hw) hR1 (y := my34) (z := my34) hown (w59 hw) (w60 hw) (notFace_of_selects (args := #[]) (mvT hZ (w62 hw))) (w62 hw) (w61 hw) (w63 hw) (w34 hw) (desc_ne (by decide)) (rm := ro 7 2 4 152) (b := am) (argsL := []) (rest := []) Em (rmSlE hw _ am x1 (0 : Int32) (fun _ _ _ ⟨x, _, _, q, _⟩ => ⟨x, q⟩) Fq Fs E1 (rmTE0 hw x1 t1 (2 : Int32) cz fm n0 E1 Fv Fc (rmN20 hw x1 t1 kB c0 c1 cz n0 E1 Fv Fc V1 SC hcz O1) (by decide) (by decide) SC hcz SF rf O1)) 0 (by decide) (by decide) (by decide) (by decide) rfl hml.symm pd_27 rfl rfl (Nat.le_of_eq rfl) (hb y at_216) ?_
    intro v101 T101 L101 X101 hS101 hZ hown hQ101
    obtain ⟨x101, t101, k101, rfl, Ex101, Fv101, Fc101, Vq101, Kq101, Nq101⟩ := hQ101
    have N101 := Fr.app N1 Nq101
    have O101 := O1.keep Kq101 all0
    have hk101 := Nat.le_trans hk1 Kq101.1
    show Gf p e below _ T101 m 219 #[vi p1, vi p2, vi p3, vi p4, vi p5, vi p6, vi c0, vi c1, vi c2, vi c3, vi 2, vr x1, vi 0, vr am, vu] [(.ref x101)]
    exact tl0 l Z a0 hw (X101.mono (by decide) (by decide)) hx y hml hZ hown hnm hret hlk rfl hS101 (Nat.le_refl _) N101 Ex101 (rmN00 hw x101 t101 k101 cz n0 Ex101 Fv101 Fc101 Vq101 SC hcz O101)  O101
  · refine Gl.callV X1 hx hZ (y := my34) (z := my34) hown (w59 hw) (w60 hw) (notFace_of_selects (args := #[]) (mvT hZ (w62 hw))) (w62 hw) (w61 hw) (w63 hw) (w34 hw) (desc_ne (by decide)) (rm := ro 7 3 20 152) (b := am) (argsL := []) (rest := []) Em (rmSl hw _ am x1 (1 : Int32) (fun _ _ _ ⟨x, _, q, _⟩ => ⟨x, q⟩) Fq Fs E1 (rmTG0 hw _ x1 t1 (1 : Int32) (2 : Int32) cz fm n0 (fun _ _ _ ⟨x, _, q, _⟩ => ⟨x, q⟩) E1 Fv Fc (rmN20 hw x1 t1 kB c0 c1 cz n0 E1 Fv Fc V1 SC hcz O1) (by decide) (by decide) (by decide) (rmO21 hw t1 kB c0 c1 n0 V1 hfb hl0 O1) SC hcz SF rf O1)) 0 (by decide) (by decide) (by decide) (by decide) rfl hml.symm pd_27 rfl rfl (Nat.le_of_eq rfl) (hb y at_216) ?_
    intro v102 T102 L102 X102 hQ102
    obtain ⟨x102, t102, rfl, Ex102, Fq102, dj102, Kq102, Nq102⟩ := hQ102
    have N102 := Fr.app N1 Nq102
    have O102 := O1.keep Kq102 all0
    have hk102 := Nat.le_trans hk1 Kq102.1
    rcases dj102 with ⟨Fc102, Vs102, ha0⟩ | ⟨Fc102, Vs102⟩
    · show Gf p e below _ T102 m 219 #[vi p1, vi p2, vi p3, vi p4, vi p5, vi p6, vi c0, vi c1, vi c2, vi c3, vi 2, vr x1, vi 1, vr am, vu] [(.ref x102)]
      exact tl1 l Z a0 hw (X102.mono (by decide) (by decide)) hx y hml hZ hown hnm hret hlk rfl hS1 hk102 N102 Ex102 (rmN10 hw x102 t102 kB c0 cz n0 Ex102 Fq102 Fc102 Vs102 SC hcz O102) (rmCh0 hw x102 t102 (0 : Int32) c0 cz n0 Ex102 Fq102 Fc102 (rmW010 hw t102 kB c0 fm n0 Vs102 hr0 ha0 SF rf O102) hr0 SC hcz O102) O102
    · show Gf p e below _ T102 m 219 #[vi p1, vi p2, vi p3, vi p4, vi p5, vi p6, vi c0, vi c1, vi c2, vi c3, vi 2, vr x1, vi 1, vr am, vu] [(.ref x102)]
      exact tl1 l Z a0 hw (X102.mono (by decide) (by decide)) hx y hml hZ hown hnm hret hlk rfl hS1 hk102 N102 Ex102 (rmN11 hw x102 t102 kB c0 cz n0 Ex102 Fq102 Fc102 Vs102 SC hcz O102) (rmCh1 hw x102 t102 (0 : Int32) c0 cz n0 Ex102 Fq102 Fc102 (rmW1 hw t102 (0 : Int32) c0 (rmX4 hw t102 (0 : Int32) (1 : Int32) fm n0 (rmX31 hw t102 kB _ Vs102) (by decide) (by decide) SF rf O102) (rmG10 hw t102 kB c0 n0 Vs102 hr0 Sa Sh Sl O102) hr0) hr0 SC hcz O102) O102
  · refine Gl.callV0 X1 hx hZ (y := my34) (z := my34) hown (w59 hw) (w60 hw) (notFace_of_selects (args := #[]) (mvT hZ (w62 hw))) (w62 hw) (w61 hw) (w63 hw) (w34 hw) (desc_ne (by decide)) (b := am) (argsL := []) (rest := []) Em (rmSlP hw am x1 (2 : Int32) Fq Fs E1 (rmTP hw x1 (2 : Int32) fm n0 E1 (rmN20 hw x1 t1 kB c0 c1 cz n0 E1 Fv Fc V1 SC hcz O1) (by decide) SF rf O1)) 0 (by decide) (by decide) rfl hml.symm pd_27 rfl rfl (Nat.le_of_eq rfl) (hb y at_216) (by decide) (by decide) ?_
    intro v103 T103 X103 e103 hv103
    subst hv103
    show Gf p e below _ T103 m 219 #[vi p1, vi p2, vi p3, vi p4, vi p5, vi p6, vi c0, vi c1, vi c2, vi c3, vi 2, vr x1, vi 2, vr am, vu] [(.ref x1)]
    exact tl2 l Z a0 hw (X103.mono (by decide) (by decide)) hx y hml hZ hown hnm hret hlk e103 hS1 hk1 N1 E1 (rmN20 hw x1 t1 kB c0 c1 cz n0 E1 Fv Fc V1 SC hcz O1) (rmCh0 hw x1 t1 (0 : Int32) c0 cz n0 E1 Fv Fc (rmW020 hw t1 kB c0 c1 fm n0 V1 hr0 hl0 SF rf O1) hr0 SC hcz O1) (rmCh0 hw x1 t1 (1 : Int32) c1 cz n0 E1 Fv Fc (rmW021 hw t1 kB c0 c1 fm n0 V1 hr1 hl1 SF rf O1) hr1 SC hcz O1) O1
theorem md21 (l : Launch) (Z : State) (a0 : Array Value) (hw : HW Z a0) {p : Program} {e : Env} {s : State} {m : MethodId} {args : Array Value} {below : List Frame} {meth : Method} {c : Code} {vm0 : Vm} {k0 : Nat} {T : State} {locs : List Loc} {h : Heap} {p1 p2 p3 p4 p5 p6 c0 c1 c2 c3 : Int32} {n0 : Nat} {cz : Int32} {fm : Value} {x1 t1 : Addr} {kB : ClassId} (X : Stand p l e room_1 (s.setVm vm0) m args below meth c T locs 4 20) (hx : p.tables.exec = Jvm.exec) (y : c.code = code) (hml : c.maxLocals = maxLocals) (hZ : Z.Warmed39 (s.setVm vm0).vm) (hown : (s.setVm vm0).vm.findClass "com/example/rulr/rulr/policy/MembershipSelectionPinLaw" = some m.cls) (hnm : meth.name = x.name) (hret : meth.sig.returnType = ret) (hlk : meth.locks = false) (eT : T.heap = h) (hS : s.Since vm0 k0) (hk : k0 ≤ h.size) (hR : CHr Z own_EL s.vm s.heap vm0 h) (N : Fr n0 locs) (hfb : Z.vm.findClass "[B" = some kB) (E1 : xS Z h x1) (Fv : fV Z h x1 t1) (Fc : fC Z h x1 1) (V1 : Arv Z h t1 kB .byte (4 : Int32) [.int (oh c0), .int (ol c0), .int (oh c1), .int (ol c1)] (.int 0)) (hr0 : rg c0) (hr1 : rg c1) (SC : sSC Z cz) (hcz : ¬ cz = 0) (SF : sSF Z fm) (rf : fm.isRef = true) (Sa : sSa Z) (Sh : sSh Z) (Sl : sSl Z) (O0 : Old Z n0 h) : Gl p e below (GdW s (fun v h L => v = some (.int 1) ∧ Fr n0 L) 32 4288) (T.setTop (mkF m 173 #[vi p1, vi p2, vi p3, vi p4, vi p5, vi p6, vi c0, vi c1, vi c2, vi c3, vi 2, vr x1, vu, vu, vu] [])) := by
  show Gf p e below _ T m 173 #[vi p1, vi p2, vi p3, vi p4, vi p5, vi p6, vi c0, vi c1, vi c2, vi c3, vi 2, vr x1, vu, vu, vu] []
  refine gs (fun _ k => XS.iloadN X.here hx rfl (hb y at_173) rfl (X.ldcInt hx hown (mvT hZ (w1 hw)) (g := (mkF m 174 #[vi p1, vi p2, vi p3, vi p4, vi p5, vi p6, vi c0, vi c1, vi c2, vi c3, vi 2, vr x1, vu, vu, vu] [(.int p4)])) rfl (hb y at_174) _ (XS.iand X.here hx rfl (hb y at_176) rfl (XS.iload X.here hx rfl (hb y at_177) rfl (XS.iconst X.here hx rfl (hb y at_179) (XS.iadd X.here hx rfl (hb y at_180) rfl k)))))) ?_
  show Gf p e below _ T m 181 #[vi p1, vi p2, vi p3, vi p4, vi p5, vi p6, vi c0, vi c1, vi c2, vi c3, vi 2, vr x1, vu, vu, vu] [(.int 3), (.int (p4 &&& (2147483647 : Int32)))]
  refine gs (fun _ k => iremM X hx rfl (hb y at_181) rfl (by decide) (XS.istore X.here hx rfl (hb y at_182) rfl (l' := #[vi p1, vi p2, vi p3, vi p4, vi p5, vi p6, vi c0, vi c1, vi c2, vi c3, vi 2, vr x1, vi ((p4 &&& (2147483647 : Int32)) % (3 : Int32)), vu, vu]) rfl k)) ?_
  show Gf p e below _ T m 184 #[vi p1, vi p2, vi p3, vi p4, vi p5, vi p6, vi c0, vi c1, vi c2, vi c3, vi 2, vr x1, vi ((p4 &&& (2147483647 : Int32)) % (3 : Int32)), vu, vu] []
  suffices J184 : ∀ ss : Int32, (ss = (0 : Int32) ∨ ss = (1 : Int32) ∨ ss = (2 : Int32)) → Gl p e below (GdW s (fun v h L => v = some (.int 1) ∧ Fr n0 L) 32 4288) (T.setTop (mkF m 184 #[vi p1, vi p2, vi p3, vi p4, vi p5, vi p6, vi c0, vi c1, vi c2, vi c3, vi 2, vr x1, vi ss, vu, vu] [])) from J184 _ (own_rm3 p4)
  intro ss hs_
  refine st184 l Z a0 hw (X.mono (by decide) (by decide)) hx y hml hZ hown hnm hret hlk eT hS hk hR N E1 Fv Fc V1 ?_ O0
  intro vm1 T1 lc am kk1 X1 hS1 hk1 hZ hown hR1 N1 O1 Em Fq Fs E1 Fv Fc V1
  rcases hs_ with rfl | rfl | rfl
  · refine Gl.callVE X1 hx hZ hS1 hk1 (own_el hw) hR1 (y := my34) (z := my34) hown (w59 hw) (w60 hw) (notFace_of_selects (args := #[]) (mvT hZ (w62 hw))) (w62 hw) (w61 hw) (w63 hw) (w34 hw) (desc_ne (by decide)) (rm := ro 7 2 4 152) (b := am) (argsL := []) (rest := []) Em (rmSlE hw _ am x1 (0 : Int32) (fun _ _ _ ⟨x, _, _, q, _⟩ => ⟨x, q⟩) Fq Fs E1 (rmTE1 hw x1 t1 (2 : Int32) cz fm n0 E1 Fv Fc (rmN21 hw x1 t1 kB c0 c1 cz n0 E1 Fv Fc V1 SC hcz O1) (by decide) (by decide) SC hcz SF rf O1)) 0 (by decide) (by decide) (by decide) (by decide) rfl hml.symm pd_27 rfl rfl (Nat.le_of_eq rfl) (hb y at_216) ?_
    intro v101 T101 L101 X101 hS101 hZ hown hQ101
    obtain ⟨x101, t101, k101, rfl, Ex101, Fv101, Fc101, Vq101, Kq101, Nq101⟩ := hQ101
    have N101 := Fr.app N1 Nq101
    have O101 := O1.keep Kq101 all0
    have hk101 := Nat.le_trans hk1 Kq101.1
    show Gf p e below _ T101 m 219 #[vi p1, vi p2, vi p3, vi p4, vi p5, vi p6, vi c0, vi c1, vi c2, vi c3, vi 2, vr x1, vi 0, vr am, vu] [(.ref x101)]
    exact tl0 l Z a0 hw (X101.mono (by decide) (by decide)) hx y hml hZ hown hnm hret hlk rfl hS101 (Nat.le_refl _) N101 Ex101 (rmN00 hw x101 t101 k101 cz n0 Ex101 Fv101 Fc101 Vq101 SC hcz O101)  O101
  · refine Gl.callV X1 hx hZ (y := my34) (z := my34) hown (w59 hw) (w60 hw) (notFace_of_selects (args := #[]) (mvT hZ (w62 hw))) (w62 hw) (w61 hw) (w63 hw) (w34 hw) (desc_ne (by decide)) (rm := ro 7 3 20 152) (b := am) (argsL := []) (rest := []) Em (rmSl hw _ am x1 (1 : Int32) (fun _ _ _ ⟨x, _, q, _⟩ => ⟨x, q⟩) Fq Fs E1 (rmTG1 hw _ x1 t1 (1 : Int32) (2 : Int32) cz fm n0 (fun _ _ _ ⟨x, _, q, _⟩ => ⟨x, q⟩) E1 Fv Fc (rmN21 hw x1 t1 kB c0 c1 cz n0 E1 Fv Fc V1 SC hcz O1) (by decide) (by decide) (by decide) (rmS821 hw t1 kB c0 c1 cz fm n0 hfb V1 hr0 hr1 SC hcz SF rf Sa Sh Sl O1) SC hcz SF rf O1)) 0 (by decide) (by decide) (by decide) (by decide) rfl hml.symm pd_27 rfl rfl (Nat.le_of_eq rfl) (hb y at_216) ?_
    intro v102 T102 L102 X102 hQ102
    obtain ⟨x102, t102, rfl, Ex102, Fq102, dj102, Kq102, Nq102⟩ := hQ102
    have N102 := Fr.app N1 Nq102
    have O102 := O1.keep Kq102 all0
    have hk102 := Nat.le_trans hk1 Kq102.1
    rcases dj102 with ⟨Fc102, Vs102, ha0⟩ | ⟨Fc102, Vs102⟩
    · show Gf p e below _ T102 m 219 #[vi p1, vi p2, vi p3, vi p4, vi p5, vi p6, vi c0, vi c1, vi c2, vi c3, vi 2, vr x1, vi 1, vr am, vu] [(.ref x102)]
      exact tl1 l Z a0 hw (X102.mono (by decide) (by decide)) hx y hml hZ hown hnm hret hlk rfl hS1 hk102 N102 Ex102 (rmN10 hw x102 t102 kB c0 cz n0 Ex102 Fq102 Fc102 Vs102 SC hcz O102) (rmCh0 hw x102 t102 (0 : Int32) c0 cz n0 Ex102 Fq102 Fc102 (rmW010 hw t102 kB c0 fm n0 Vs102 hr0 ha0 SF rf O102) hr0 SC hcz O102) O102
    · show Gf p e below _ T102 m 219 #[vi p1, vi p2, vi p3, vi p4, vi p5, vi p6, vi c0, vi c1, vi c2, vi c3, vi 2, vr x1, vi 1, vr am, vu] [(.ref x102)]
      exact tl1 l Z a0 hw (X102.mono (by decide) (by decide)) hx y hml hZ hown hnm hret hlk rfl hS1 hk102 N102 Ex102 (rmN11 hw x102 t102 kB c0 cz n0 Ex102 Fq102 Fc102 Vs102 SC hcz O102) (rmCh1 hw x102 t102 (0 : Int32) c0 cz n0 Ex102 Fq102 Fc102 (rmW1 hw t102 (0 : Int32) c0 (rmX4 hw t102 (0 : Int32) (1 : Int32) fm n0 (rmX31 hw t102 kB _ Vs102) (by decide) (by decide) SF rf O102) (rmG10 hw t102 kB c0 n0 Vs102 hr0 Sa Sh Sl O102) hr0) hr0 SC hcz O102) O102
  · refine Gl.callV0 X1 hx hZ (y := my34) (z := my34) hown (w59 hw) (w60 hw) (notFace_of_selects (args := #[]) (mvT hZ (w62 hw))) (w62 hw) (w61 hw) (w63 hw) (w34 hw) (desc_ne (by decide)) (b := am) (argsL := []) (rest := []) Em (rmSlP hw am x1 (2 : Int32) Fq Fs E1 (rmTP hw x1 (2 : Int32) fm n0 E1 (rmN21 hw x1 t1 kB c0 c1 cz n0 E1 Fv Fc V1 SC hcz O1) (by decide) SF rf O1)) 0 (by decide) (by decide) rfl hml.symm pd_27 rfl rfl (Nat.le_of_eq rfl) (hb y at_216) (by decide) (by decide) ?_
    intro v103 T103 X103 e103 hv103
    subst hv103
    show Gf p e below _ T103 m 219 #[vi p1, vi p2, vi p3, vi p4, vi p5, vi p6, vi c0, vi c1, vi c2, vi c3, vi 2, vr x1, vi 2, vr am, vu] [(.ref x1)]
    exact tl2 l Z a0 hw (X103.mono (by decide) (by decide)) hx y hml hZ hown hnm hret hlk e103 hS1 hk1 N1 E1 (rmN21 hw x1 t1 kB c0 c1 cz n0 E1 Fv Fc V1 SC hcz O1) (rmCh1 hw x1 t1 (0 : Int32) c0 cz n0 E1 Fv Fc (rmW1 hw t1 (0 : Int32) c0 (rmX4 hw t1 (0 : Int32) (2 : Int32) fm n0 (rmX32 hw t1 kB _ V1) (by decide) (by decide) SF rf O1) (rmG20 hw t1 kB c0 c1 n0 V1 hr0 Sa Sh Sl O1) hr0) hr0 SC hcz O1) (rmCh1 hw x1 t1 (1 : Int32) c1 cz n0 E1 Fv Fc (rmW1 hw t1 (1 : Int32) c1 (rmX4 hw t1 (1 : Int32) (2 : Int32) fm n0 (rmX32 hw t1 kB _ V1) (by decide) (by decide) SF rf O1) (rmG21 hw t1 kB c0 c1 n0 V1 hr1 Sa Sh Sl O1) hr1) hr1 SC hcz O1) O1
theorem md30 (l : Launch) (Z : State) (a0 : Array Value) (hw : HW Z a0) {p : Program} {e : Env} {s : State} {m : MethodId} {args : Array Value} {below : List Frame} {meth : Method} {c : Code} {vm0 : Vm} {k0 : Nat} {T : State} {locs : List Loc} {h : Heap} {p1 p2 p3 p4 p5 p6 c0 c1 c2 c3 : Int32} {n0 : Nat} {cz : Int32} {fm : Value} {x1 t1 : Addr} {kB : ClassId} (X : Stand p l e room_1 (s.setVm vm0) m args below meth c T locs 4 20) (hx : p.tables.exec = Jvm.exec) (y : c.code = code) (hml : c.maxLocals = maxLocals) (hZ : Z.Warmed39 (s.setVm vm0).vm) (hown : (s.setVm vm0).vm.findClass "com/example/rulr/rulr/policy/MembershipSelectionPinLaw" = some m.cls) (hnm : meth.name = x.name) (hret : meth.sig.returnType = ret) (hlk : meth.locks = false) (eT : T.heap = h) (hS : s.Since vm0 k0) (hk : k0 ≤ h.size) (hR : CHr Z own_EL s.vm s.heap vm0 h) (N : Fr n0 locs) (hfb : Z.vm.findClass "[B" = some kB) (E1 : xS Z h x1) (Fv : fV Z h x1 t1) (Fc : fC Z h x1 0) (V1 : Arv Z h t1 kB .byte (3 : Int32) [.int (o8 c0), .int (o8 c1), .int (o8 c2)] (.int 0)) (hr0 : rg c0) (hr1 : rg c1) (hr2 : rg c2) (hl0 : ¬ (255 : Int32) < c0) (hl1 : ¬ (255 : Int32) < c1) (hl2 : ¬ (255 : Int32) < c2) (SC : sSC Z cz) (hcz : ¬ cz = 0) (SF : sSF Z fm) (rf : fm.isRef = true) (Sa : sSa Z) (Sh : sSh Z) (Sl : sSl Z) (O0 : Old Z n0 h) : Gl p e below (GdW s (fun v h L => v = some (.int 1) ∧ Fr n0 L) 32 4288) (T.setTop (mkF m 173 #[vi p1, vi p2, vi p3, vi p4, vi p5, vi p6, vi c0, vi c1, vi c2, vi c3, vi 3, vr x1, vu, vu, vu] [])) := by
  show Gf p e below _ T m 173 #[vi p1, vi p2, vi p3, vi p4, vi p5, vi p6, vi c0, vi c1, vi c2, vi c3, vi 3, vr x1, vu, vu, vu] []
  refine gs (fun _ k => XS.iloadN X.here hx rfl (hb y at_173) rfl (X.ldcInt hx hown (mvT hZ (w1 hw)) (g := (mkF m 174 #[vi p1, vi p2, vi p3, vi p4, vi p5, vi p6, vi c0, vi c1, vi c2, vi c3, vi 3, vr x1, vu, vu, vu] [(.int p4)])) rfl (hb y at_174) _ (XS.iand X.here hx rfl (hb y at_176) rfl (XS.iload X.here hx rfl (hb y at_177) rfl (XS.iconst X.here hx rfl (hb y at_179) (XS.iadd X.here hx rfl (hb y at_180) rfl k)))))) ?_
  show Gf p e below _ T m 181 #[vi p1, vi p2, vi p3, vi p4, vi p5, vi p6, vi c0, vi c1, vi c2, vi c3, vi 3, vr x1, vu, vu, vu] [(.int 4), (.int (p4 &&& (2147483647 : Int32)))]
  refine gs (fun _ k => iremM X hx rfl (hb y at_181) rfl (by decide) (XS.istore X.here hx rfl (hb y at_182) rfl (l' := #[vi p1, vi p2, vi p3, vi p4, vi p5, vi p6, vi c0, vi c1, vi c2, vi c3, vi 3, vr x1, vi ((p4 &&& (2147483647 : Int32)) % (4 : Int32)), vu, vu]) rfl k)) ?_
  show Gf p e below _ T m 184 #[vi p1, vi p2, vi p3, vi p4, vi p5, vi p6, vi c0, vi c1, vi c2, vi c3, vi 3, vr x1, vi ((p4 &&& (2147483647 : Int32)) % (4 : Int32)), vu, vu] []
  suffices J184 : ∀ ss : Int32, (ss = (0 : Int32) ∨ ss = (1 : Int32) ∨ ss = (2 : Int32) ∨ ss = (3 : Int32)) → Gl p e below (GdW s (fun v h L => v = some (.int 1) ∧ Fr n0 L) 32 4288) (T.setTop (mkF m 184 #[vi p1, vi p2, vi p3, vi p4, vi p5, vi p6, vi c0, vi c1, vi c2, vi c3, vi 3, vr x1, vi ss, vu, vu] [])) from J184 _ (own_rm4 p4)
  intro ss hs_
  refine st184 l Z a0 hw (X.mono (by decide) (by decide)) hx y hml hZ hown hnm hret hlk eT hS hk hR N E1 Fv Fc V1 ?_ O0
  intro vm1 T1 lc am kk1 X1 hS1 hk1 hZ hown hR1 N1 O1 Em Fq Fs E1 Fv Fc V1
  rcases hs_ with rfl | rfl | rfl | rfl
  · refine Gl.callVE X1 hx hZ hS1 hk1 (own_el hw) hR1 (y := my34) (z := my34) hown (w59 hw) (w60 hw) (notFace_of_selects (args := #[]) (mvT hZ (w62 hw))) (w62 hw) (w61 hw) (w63 hw) (w34 hw) (desc_ne (by decide)) (rm := ro 7 2 4 152) (b := am) (argsL := []) (rest := []) Em (rmSlE hw _ am x1 (0 : Int32) (fun _ _ _ ⟨x, _, _, q, _⟩ => ⟨x, q⟩) Fq Fs E1 (rmTE0 hw x1 t1 (3 : Int32) cz fm n0 E1 Fv Fc (rmN30 hw x1 t1 kB c0 c1 c2 cz n0 E1 Fv Fc V1 SC hcz O1) (by decide) (by decide) SC hcz SF rf O1)) 0 (by decide) (by decide) (by decide) (by decide) rfl hml.symm pd_27 rfl rfl (Nat.le_of_eq rfl) (hb y at_216) ?_
    intro v101 T101 L101 X101 hS101 hZ hown hQ101
    obtain ⟨x101, t101, k101, rfl, Ex101, Fv101, Fc101, Vq101, Kq101, Nq101⟩ := hQ101
    have N101 := Fr.app N1 Nq101
    have O101 := O1.keep Kq101 all0
    have hk101 := Nat.le_trans hk1 Kq101.1
    show Gf p e below _ T101 m 219 #[vi p1, vi p2, vi p3, vi p4, vi p5, vi p6, vi c0, vi c1, vi c2, vi c3, vi 3, vr x1, vi 0, vr am, vu] [(.ref x101)]
    exact tl0 l Z a0 hw (X101.mono (by decide) (by decide)) hx y hml hZ hown hnm hret hlk rfl hS101 (Nat.le_refl _) N101 Ex101 (rmN00 hw x101 t101 k101 cz n0 Ex101 Fv101 Fc101 Vq101 SC hcz O101)  O101
  · refine Gl.callV X1 hx hZ (y := my34) (z := my34) hown (w59 hw) (w60 hw) (notFace_of_selects (args := #[]) (mvT hZ (w62 hw))) (w62 hw) (w61 hw) (w63 hw) (w34 hw) (desc_ne (by decide)) (rm := ro 7 3 20 152) (b := am) (argsL := []) (rest := []) Em (rmSl hw _ am x1 (1 : Int32) (fun _ _ _ ⟨x, _, q, _⟩ => ⟨x, q⟩) Fq Fs E1 (rmTG0 hw _ x1 t1 (1 : Int32) (3 : Int32) cz fm n0 (fun _ _ _ ⟨x, _, q, _⟩ => ⟨x, q⟩) E1 Fv Fc (rmN30 hw x1 t1 kB c0 c1 c2 cz n0 E1 Fv Fc V1 SC hcz O1) (by decide) (by decide) (by decide) (rmO31 hw t1 kB c0 c1 c2 n0 V1 hfb hl0 O1) SC hcz SF rf O1)) 0 (by decide) (by decide) (by decide) (by decide) rfl hml.symm pd_27 rfl rfl (Nat.le_of_eq rfl) (hb y at_216) ?_
    intro v102 T102 L102 X102 hQ102
    obtain ⟨x102, t102, rfl, Ex102, Fq102, dj102, Kq102, Nq102⟩ := hQ102
    have N102 := Fr.app N1 Nq102
    have O102 := O1.keep Kq102 all0
    have hk102 := Nat.le_trans hk1 Kq102.1
    rcases dj102 with ⟨Fc102, Vs102, ha0⟩ | ⟨Fc102, Vs102⟩
    · show Gf p e below _ T102 m 219 #[vi p1, vi p2, vi p3, vi p4, vi p5, vi p6, vi c0, vi c1, vi c2, vi c3, vi 3, vr x1, vi 1, vr am, vu] [(.ref x102)]
      exact tl1 l Z a0 hw (X102.mono (by decide) (by decide)) hx y hml hZ hown hnm hret hlk rfl hS1 hk102 N102 Ex102 (rmN10 hw x102 t102 kB c0 cz n0 Ex102 Fq102 Fc102 Vs102 SC hcz O102) (rmCh0 hw x102 t102 (0 : Int32) c0 cz n0 Ex102 Fq102 Fc102 (rmW010 hw t102 kB c0 fm n0 Vs102 hr0 ha0 SF rf O102) hr0 SC hcz O102) O102
    · show Gf p e below _ T102 m 219 #[vi p1, vi p2, vi p3, vi p4, vi p5, vi p6, vi c0, vi c1, vi c2, vi c3, vi 3, vr x1, vi 1, vr am, vu] [(.ref x102)]
      exact tl1 l Z a0 hw (X102.mono (by decide) (by decide)) hx y hml hZ hown hnm hret hlk rfl hS1 hk102 N102 Ex102 (rmN11 hw x102 t102 kB c0 cz n0 Ex102 Fq102 Fc102 Vs102 SC hcz O102) (rmCh1 hw x102 t102 (0 : Int32) c0 cz n0 Ex102 Fq102 Fc102 (rmW1 hw t102 (0 : Int32) c0 (rmX4 hw t102 (0 : Int32) (1 : Int32) fm n0 (rmX31 hw t102 kB _ Vs102) (by decide) (by decide) SF rf O102) (rmG10 hw t102 kB c0 n0 Vs102 hr0 Sa Sh Sl O102) hr0) hr0 SC hcz O102) O102
  · refine Gl.callV X1 hx hZ (y := my34) (z := my34) hown (w59 hw) (w60 hw) (notFace_of_selects (args := #[]) (mvT hZ (w62 hw))) (w62 hw) (w61 hw) (w63 hw) (w34 hw) (desc_ne (by decide)) (rm := ro 7 3 20 152) (b := am) (argsL := []) (rest := []) Em (rmSl hw _ am x1 (2 : Int32) (fun _ _ _ ⟨x, _, q, _⟩ => ⟨x, q⟩) Fq Fs E1 (rmTG0 hw _ x1 t1 (2 : Int32) (3 : Int32) cz fm n0 (fun _ _ _ ⟨x, _, q, _⟩ => ⟨x, q⟩) E1 Fv Fc (rmN30 hw x1 t1 kB c0 c1 c2 cz n0 E1 Fv Fc V1 SC hcz O1) (by decide) (by decide) (by decide) (rmO32 hw t1 kB c0 c1 c2 n0 V1 hfb hl0 hl1 O1) SC hcz SF rf O1)) 0 (by decide) (by decide) (by decide) (by decide) rfl hml.symm pd_27 rfl rfl (Nat.le_of_eq rfl) (hb y at_216) ?_
    intro v103 T103 L103 X103 hQ103
    obtain ⟨x103, t103, rfl, Ex103, Fq103, dj103, Kq103, Nq103⟩ := hQ103
    have N103 := Fr.app N1 Nq103
    have O103 := O1.keep Kq103 all0
    have hk103 := Nat.le_trans hk1 Kq103.1
    rcases dj103 with ⟨Fc103, Vs103, ha0, ha1⟩ | ⟨Fc103, Vs103⟩
    · show Gf p e below _ T103 m 219 #[vi p1, vi p2, vi p3, vi p4, vi p5, vi p6, vi c0, vi c1, vi c2, vi c3, vi 3, vr x1, vi 2, vr am, vu] [(.ref x103)]
      exact tl2 l Z a0 hw (X103.mono (by decide) (by decide)) hx y hml hZ hown hnm hret hlk rfl hS1 hk103 N103 Ex103 (rmN20 hw x103 t103 kB c0 c1 cz n0 Ex103 Fq103 Fc103 Vs103 SC hcz O103) (rmCh0 hw x103 t103 (0 : Int32) c0 cz n0 Ex103 Fq103 Fc103 (rmW020 hw t103 kB c0 c1 fm n0 Vs103 hr0 ha0 SF rf O103) hr0 SC hcz O103) (rmCh0 hw x103 t103 (1 : Int32) c1 cz n0 Ex103 Fq103 Fc103 (rmW021 hw t103 kB c0 c1 fm n0 Vs103 hr1 ha1 SF rf O103) hr1 SC hcz O103) O103
    · show Gf p e below _ T103 m 219 #[vi p1, vi p2, vi p3, vi p4, vi p5, vi p6, vi c0, vi c1, vi c2, vi c3, vi 3, vr x1, vi 2, vr am, vu] [(.ref x103)]
      exact tl2 l Z a0 hw (X103.mono (by decide) (by decide)) hx y hml hZ hown hnm hret hlk rfl hS1 hk103 N103 Ex103 (rmN21 hw x103 t103 kB c0 c1 cz n0 Ex103 Fq103 Fc103 Vs103 SC hcz O103) (rmCh1 hw x103 t103 (0 : Int32) c0 cz n0 Ex103 Fq103 Fc103 (rmW1 hw t103 (0 : Int32) c0 (rmX4 hw t103 (0 : Int32) (2 : Int32) fm n0 (rmX32 hw t103 kB _ Vs103) (by decide) (by decide) SF rf O103) (rmG20 hw t103 kB c0 c1 n0 Vs103 hr0 Sa Sh Sl O103) hr0) hr0 SC hcz O103) (rmCh1 hw x103 t103 (1 : Int32) c1 cz n0 Ex103 Fq103 Fc103 (rmW1 hw t103 (1 : Int32) c1 (rmX4 hw t103 (1 : Int32) (2 : Int32) fm n0 (rmX32 hw t103 kB _ Vs103) (by decide) (by decide) SF rf O103) (rmG21 hw t103 kB c0 c1 n0 Vs103 hr1 Sa Sh Sl O103) hr1) hr1 SC hcz O103) O103
  · refine Gl.callV0 X1 hx hZ (y := my34) (z := my34) hown (w59 hw) (w60 hw) (notFace_of_selects (args := #[]) (mvT hZ (w62 hw))) (w62 hw) (w61 hw) (w63 hw) (w34 hw) (desc_ne (by decide)) (b := am) (argsL := []) (rest := []) Em (rmSlP hw am x1 (3 : Int32) Fq Fs E1 (rmTP hw x1 (3 : Int32) fm n0 E1 (rmN30 hw x1 t1 kB c0 c1 c2 cz n0 E1 Fv Fc V1 SC hcz O1) (by decide) SF rf O1)) 0 (by decide) (by decide) rfl hml.symm pd_27 rfl rfl (Nat.le_of_eq rfl) (hb y at_216) (by decide) (by decide) ?_
    intro v104 T104 X104 e104 hv104
    subst hv104
    show Gf p e below _ T104 m 219 #[vi p1, vi p2, vi p3, vi p4, vi p5, vi p6, vi c0, vi c1, vi c2, vi c3, vi 3, vr x1, vi 3, vr am, vu] [(.ref x1)]
    exact tl3 l Z a0 hw (X104.mono (by decide) (by decide)) hx y hml hZ hown hnm hret hlk e104 hS1 hk1 N1 E1 (rmN30 hw x1 t1 kB c0 c1 c2 cz n0 E1 Fv Fc V1 SC hcz O1) (rmCh0 hw x1 t1 (0 : Int32) c0 cz n0 E1 Fv Fc (rmW030 hw t1 kB c0 c1 c2 fm n0 V1 hr0 hl0 SF rf O1) hr0 SC hcz O1) (rmCh0 hw x1 t1 (1 : Int32) c1 cz n0 E1 Fv Fc (rmW031 hw t1 kB c0 c1 c2 fm n0 V1 hr1 hl1 SF rf O1) hr1 SC hcz O1) (rmCh0 hw x1 t1 (2 : Int32) c2 cz n0 E1 Fv Fc (rmW032 hw t1 kB c0 c1 c2 fm n0 V1 hr2 hl2 SF rf O1) hr2 SC hcz O1) O1
theorem md31 (l : Launch) (Z : State) (a0 : Array Value) (hw : HW Z a0) {p : Program} {e : Env} {s : State} {m : MethodId} {args : Array Value} {below : List Frame} {meth : Method} {c : Code} {vm0 : Vm} {k0 : Nat} {T : State} {locs : List Loc} {h : Heap} {p1 p2 p3 p4 p5 p6 c0 c1 c2 c3 : Int32} {n0 : Nat} {cz : Int32} {fm : Value} {x1 t1 : Addr} {kB : ClassId} (X : Stand p l e room_1 (s.setVm vm0) m args below meth c T locs 4 20) (hx : p.tables.exec = Jvm.exec) (y : c.code = code) (hml : c.maxLocals = maxLocals) (hZ : Z.Warmed39 (s.setVm vm0).vm) (hown : (s.setVm vm0).vm.findClass "com/example/rulr/rulr/policy/MembershipSelectionPinLaw" = some m.cls) (hnm : meth.name = x.name) (hret : meth.sig.returnType = ret) (hlk : meth.locks = false) (eT : T.heap = h) (hS : s.Since vm0 k0) (hk : k0 ≤ h.size) (hR : CHr Z own_EL s.vm s.heap vm0 h) (N : Fr n0 locs) (hfb : Z.vm.findClass "[B" = some kB) (E1 : xS Z h x1) (Fv : fV Z h x1 t1) (Fc : fC Z h x1 1) (V1 : Arv Z h t1 kB .byte (6 : Int32) [.int (oh c0), .int (ol c0), .int (oh c1), .int (ol c1), .int (oh c2), .int (ol c2)] (.int 0)) (hr0 : rg c0) (hr1 : rg c1) (hr2 : rg c2) (SC : sSC Z cz) (hcz : ¬ cz = 0) (SF : sSF Z fm) (rf : fm.isRef = true) (Sa : sSa Z) (Sh : sSh Z) (Sl : sSl Z) (O0 : Old Z n0 h) : Gl p e below (GdW s (fun v h L => v = some (.int 1) ∧ Fr n0 L) 32 4288) (T.setTop (mkF m 173 #[vi p1, vi p2, vi p3, vi p4, vi p5, vi p6, vi c0, vi c1, vi c2, vi c3, vi 3, vr x1, vu, vu, vu] [])) := by
  show Gf p e below _ T m 173 #[vi p1, vi p2, vi p3, vi p4, vi p5, vi p6, vi c0, vi c1, vi c2, vi c3, vi 3, vr x1, vu, vu, vu] []
  refine gs (fun _ k => XS.iloadN X.here hx rfl (hb y at_173) rfl (X.ldcInt hx hown (mvT hZ (w1 hw)) (g := (mkF m 174 #[vi p1, vi p2, vi p3, vi p4, vi p5, vi p6, vi c0, vi c1, vi c2, vi c3, vi 3, vr x1, vu, vu, vu] [(.int p4)])) rfl (hb y at_174) _ (XS.iand X.here hx rfl (hb y at_176) rfl (XS.iload X.here hx rfl (hb y at_177) rfl (XS.iconst X.here hx rfl (hb y at_179) (XS.iadd X.here hx rfl (hb y at_180) rfl k)))))) ?_
  show Gf p e below _ T m 181 #[vi p1, vi p2, vi p3, vi p4, vi p5, vi p6, vi c0, vi c1, vi c2, vi c3, vi 3, vr x1, vu, vu, vu] [(.int 4), (.int (p4 &&& (2147483647 : Int32)))]
  refine gs (fun _ k => iremM X hx rfl (hb y at_181) rfl (by decide) (XS.istore X.here hx rfl (hb y at_182) rfl (l' := #[vi p1, vi p2, vi p3, vi p4, vi p5, vi p6, vi c0, vi c1, vi c2, vi c3, vi 3, vr x1, vi ((p4 &&& (2147483647 : Int32)) % (4 : Int32)), vu, vu]) rfl k)) ?_
  show Gf p e below _ T m 184 #[vi p1, vi p2, vi p3, vi p4, vi p5, vi p6, vi c0, vi c1, vi c2, vi c3, vi 3, vr x1, vi ((p4 &&& (2147483647 : Int32)) % (4 : Int32)), vu, vu] []
  suffices J184 : ∀ ss : Int32, (ss = (0 : Int32) ∨ ss = (1 : Int32) ∨ ss = (2 : Int32) ∨ ss = (3 : Int32)) → Gl p e below (GdW s (fun v h L => v = some (.int 1) ∧ Fr n0 L) 32 4288) (T.setTop (mkF m 184 #[vi p1, vi p2, vi p3, vi p4, vi p5, vi p6, vi c0, vi c1, vi c2, vi c3, vi 3, vr x1, vi ss, vu, vu] [])) from J184 _ (own_rm4 p4)
  intro ss hs_
  refine st184 l Z a0 hw (X.mono (by decide) (by decide)) hx y hml hZ hown hnm hret hlk eT hS hk hR N E1 Fv Fc V1 ?_ O0
  intro vm1 T1 lc am kk1 X1 hS1 hk1 hZ hown hR1 N1 O1 Em Fq Fs E1 Fv Fc V1
  rcases hs_ with rfl | rfl | rfl | rfl
  · refine Gl.callVE X1 hx hZ hS1 hk1 (own_el hw) hR1 (y := my34) (z := my34) hown (w59 hw) (w60 hw) (notFace_of_selects (args := #[]) (mvT hZ (w62 hw))) (w62 hw) (w61 hw) (w63 hw) (w34 hw) (desc_ne (by decide)) (rm := ro 7 2 4 152) (b := am) (argsL := []) (rest := []) Em (rmSlE hw _ am x1 (0 : Int32) (fun _ _ _ ⟨x, _, _, q, _⟩ => ⟨x, q⟩) Fq Fs E1 (rmTE1 hw x1 t1 (3 : Int32) cz fm n0 E1 Fv Fc (rmN31 hw x1 t1 kB c0 c1 c2 cz n0 E1 Fv Fc V1 SC hcz O1) (by decide) (by decide) SC hcz SF rf O1)) 0 (by decide) (by decide) (by decide) (by decide) rfl hml.symm pd_27 rfl rfl (Nat.le_of_eq rfl) (hb y at_216) ?_
    intro v101 T101 L101 X101 hS101 hZ hown hQ101
    obtain ⟨x101, t101, k101, rfl, Ex101, Fv101, Fc101, Vq101, Kq101, Nq101⟩ := hQ101
    have N101 := Fr.app N1 Nq101
    have O101 := O1.keep Kq101 all0
    have hk101 := Nat.le_trans hk1 Kq101.1
    show Gf p e below _ T101 m 219 #[vi p1, vi p2, vi p3, vi p4, vi p5, vi p6, vi c0, vi c1, vi c2, vi c3, vi 3, vr x1, vi 0, vr am, vu] [(.ref x101)]
    exact tl0 l Z a0 hw (X101.mono (by decide) (by decide)) hx y hml hZ hown hnm hret hlk rfl hS101 (Nat.le_refl _) N101 Ex101 (rmN00 hw x101 t101 k101 cz n0 Ex101 Fv101 Fc101 Vq101 SC hcz O101)  O101
  · refine Gl.callV X1 hx hZ (y := my34) (z := my34) hown (w59 hw) (w60 hw) (notFace_of_selects (args := #[]) (mvT hZ (w62 hw))) (w62 hw) (w61 hw) (w63 hw) (w34 hw) (desc_ne (by decide)) (rm := ro 7 3 20 152) (b := am) (argsL := []) (rest := []) Em (rmSl hw _ am x1 (1 : Int32) (fun _ _ _ ⟨x, _, q, _⟩ => ⟨x, q⟩) Fq Fs E1 (rmTG1 hw _ x1 t1 (1 : Int32) (3 : Int32) cz fm n0 (fun _ _ _ ⟨x, _, q, _⟩ => ⟨x, q⟩) E1 Fv Fc (rmN31 hw x1 t1 kB c0 c1 c2 cz n0 E1 Fv Fc V1 SC hcz O1) (by decide) (by decide) (by decide) (rmS831 hw t1 kB c0 c1 c2 cz fm n0 hfb V1 hr0 hr1 hr2 SC hcz SF rf Sa Sh Sl O1) SC hcz SF rf O1)) 0 (by decide) (by decide) (by decide) (by decide) rfl hml.symm pd_27 rfl rfl (Nat.le_of_eq rfl) (hb y at_216) ?_
    intro v102 T102 L102 X102 hQ102
    obtain ⟨x102, t102, rfl, Ex102, Fq102, dj102, Kq102, Nq102⟩ := hQ102
    have N102 := Fr.app N1 Nq102
    have O102 := O1.keep Kq102 all0
    have hk102 := Nat.le_trans hk1 Kq102.1
    rcases dj102 with ⟨Fc102, Vs102, ha0⟩ | ⟨Fc102, Vs102⟩
    · show Gf p e below _ T102 m 219 #[vi p1, vi p2, vi p3, vi p4, vi p5, vi p6, vi c0, vi c1, vi c2, vi c3, vi 3, vr x1, vi 1, vr am, vu] [(.ref x102)]
      exact tl1 l Z a0 hw (X102.mono (by decide) (by decide)) hx y hml hZ hown hnm hret hlk rfl hS1 hk102 N102 Ex102 (rmN10 hw x102 t102 kB c0 cz n0 Ex102 Fq102 Fc102 Vs102 SC hcz O102) (rmCh0 hw x102 t102 (0 : Int32) c0 cz n0 Ex102 Fq102 Fc102 (rmW010 hw t102 kB c0 fm n0 Vs102 hr0 ha0 SF rf O102) hr0 SC hcz O102) O102
    · show Gf p e below _ T102 m 219 #[vi p1, vi p2, vi p3, vi p4, vi p5, vi p6, vi c0, vi c1, vi c2, vi c3, vi 3, vr x1, vi 1, vr am, vu] [(.ref x102)]
      exact tl1 l Z a0 hw (X102.mono (by decide) (by decide)) hx y hml hZ hown hnm hret hlk rfl hS1 hk102 N102 Ex102 (rmN11 hw x102 t102 kB c0 cz n0 Ex102 Fq102 Fc102 Vs102 SC hcz O102) (rmCh1 hw x102 t102 (0 : Int32) c0 cz n0 Ex102 Fq102 Fc102 (rmW1 hw t102 (0 : Int32) c0 (rmX4 hw t102 (0 : Int32) (1 : Int32) fm n0 (rmX31 hw t102 kB _ Vs102) (by decide) (by decide) SF rf O102) (rmG10 hw t102 kB c0 n0 Vs102 hr0 Sa Sh Sl O102) hr0) hr0 SC hcz O102) O102
  · refine Gl.callV X1 hx hZ (y := my34) (z := my34) hown (w59 hw) (w60 hw) (notFace_of_selects (args := #[]) (mvT hZ (w62 hw))) (w62 hw) (w61 hw) (w63 hw) (w34 hw) (desc_ne (by decide)) (rm := ro 7 3 20 152) (b := am) (argsL := []) (rest := []) Em (rmSl hw _ am x1 (2 : Int32) (fun _ _ _ ⟨x, _, q, _⟩ => ⟨x, q⟩) Fq Fs E1 (rmTG1 hw _ x1 t1 (2 : Int32) (3 : Int32) cz fm n0 (fun _ _ _ ⟨x, _, q, _⟩ => ⟨x, q⟩) E1 Fv Fc (rmN31 hw x1 t1 kB c0 c1 c2 cz n0 E1 Fv Fc V1 SC hcz O1) (by decide) (by decide) (by decide) (rmS832 hw t1 kB c0 c1 c2 cz fm n0 hfb V1 hr0 hr1 hr2 SC hcz SF rf Sa Sh Sl O1) SC hcz SF rf O1)) 0 (by decide) (by decide) (by decide) (by decide) rfl hml.symm pd_27 rfl rfl (Nat.le_of_eq rfl) (hb y at_216) ?_
    intro v103 T103 L103 X103 hQ103
    obtain ⟨x103, t103, rfl, Ex103, Fq103, dj103, Kq103, Nq103⟩ := hQ103
    have N103 := Fr.app N1 Nq103
    have O103 := O1.keep Kq103 all0
    have hk103 := Nat.le_trans hk1 Kq103.1
    rcases dj103 with ⟨Fc103, Vs103, ha0, ha1⟩ | ⟨Fc103, Vs103⟩
    · show Gf p e below _ T103 m 219 #[vi p1, vi p2, vi p3, vi p4, vi p5, vi p6, vi c0, vi c1, vi c2, vi c3, vi 3, vr x1, vi 2, vr am, vu] [(.ref x103)]
      exact tl2 l Z a0 hw (X103.mono (by decide) (by decide)) hx y hml hZ hown hnm hret hlk rfl hS1 hk103 N103 Ex103 (rmN20 hw x103 t103 kB c0 c1 cz n0 Ex103 Fq103 Fc103 Vs103 SC hcz O103) (rmCh0 hw x103 t103 (0 : Int32) c0 cz n0 Ex103 Fq103 Fc103 (rmW020 hw t103 kB c0 c1 fm n0 Vs103 hr0 ha0 SF rf O103) hr0 SC hcz O103) (rmCh0 hw x103 t103 (1 : Int32) c1 cz n0 Ex103 Fq103 Fc103 (rmW021 hw t103 kB c0 c1 fm n0 Vs103 hr1 ha1 SF rf O103) hr1 SC hcz O103) O103
    · show Gf p e below _ T103 m 219 #[vi p1, vi p2, vi p3, vi p4, vi p5, vi p6, vi c0, vi c1, vi c2, vi c3, vi 3, vr x1, vi 2, vr am, vu] [(.ref x103)]
      exact tl2 l Z a0 hw (X103.mono (by decide) (by decide)) hx y hml hZ hown hnm hret hlk rfl hS1 hk103 N103 Ex103 (rmN21 hw x103 t103 kB c0 c1 cz n0 Ex103 Fq103 Fc103 Vs103 SC hcz O103) (rmCh1 hw x103 t103 (0 : Int32) c0 cz n0 Ex103 Fq103 Fc103 (rmW1 hw t103 (0 : Int32) c0 (rmX4 hw t103 (0 : Int32) (2 : Int32) fm n0 (rmX32 hw t103 kB _ Vs103) (by decide) (by decide) SF rf O103) (rmG20 hw t103 kB c0 c1 n0 Vs103 hr0 Sa Sh Sl O103) hr0) hr0 SC hcz O103) (rmCh1 hw x103 t103 (1 : Int32) c1 cz n0 Ex103 Fq103 Fc103 (rmW1 hw t103 (1 : Int32) c1 (rmX4 hw t103 (1 : Int32) (2 : Int32) fm n0 (rmX32 hw t103 kB _ Vs103) (by decide) (by decide) SF rf O103) (rmG21 hw t103 kB c0 c1 n0 Vs103 hr1 Sa Sh Sl O103) hr1) hr1 SC hcz O103) O103
  · refine Gl.callV0 X1 hx hZ (y := my34) (z := my34) hown (w59 hw) (w60 hw) (notFace_of_selects (args := #[]) (mvT hZ (w62 hw))) (w62 hw) (w61 hw) (w63 hw) (w34 hw) (desc_ne (by decide)) (b := am) (argsL := []) (rest := []) Em (rmSlP hw am x1 (3 : Int32) Fq Fs E1 (rmTP hw x1 (3 : Int32) fm n0 E1 (rmN31 hw x1 t1 kB c0 c1 c2 cz n0 E1 Fv Fc V1 SC hcz O1) (by decide) SF rf O1)) 0 (by decide) (by decide) rfl hml.symm pd_27 rfl rfl (Nat.le_of_eq rfl) (hb y at_216) (by decide) (by decide) ?_
    intro v104 T104 X104 e104 hv104
    subst hv104
    show Gf p e below _ T104 m 219 #[vi p1, vi p2, vi p3, vi p4, vi p5, vi p6, vi c0, vi c1, vi c2, vi c3, vi 3, vr x1, vi 3, vr am, vu] [(.ref x1)]
    exact tl3 l Z a0 hw (X104.mono (by decide) (by decide)) hx y hml hZ hown hnm hret hlk e104 hS1 hk1 N1 E1 (rmN31 hw x1 t1 kB c0 c1 c2 cz n0 E1 Fv Fc V1 SC hcz O1) (rmCh1 hw x1 t1 (0 : Int32) c0 cz n0 E1 Fv Fc (rmW1 hw t1 (0 : Int32) c0 (rmX4 hw t1 (0 : Int32) (3 : Int32) fm n0 (rmX33 hw t1 kB _ V1) (by decide) (by decide) SF rf O1) (rmG30 hw t1 kB c0 c1 c2 n0 V1 hr0 Sa Sh Sl O1) hr0) hr0 SC hcz O1) (rmCh1 hw x1 t1 (1 : Int32) c1 cz n0 E1 Fv Fc (rmW1 hw t1 (1 : Int32) c1 (rmX4 hw t1 (1 : Int32) (3 : Int32) fm n0 (rmX33 hw t1 kB _ V1) (by decide) (by decide) SF rf O1) (rmG31 hw t1 kB c0 c1 c2 n0 V1 hr1 Sa Sh Sl O1) hr1) hr1 SC hcz O1) (rmCh1 hw x1 t1 (2 : Int32) c2 cz n0 E1 Fv Fc (rmW1 hw t1 (2 : Int32) c2 (rmX4 hw t1 (2 : Int32) (3 : Int32) fm n0 (rmX33 hw t1 kB _ V1) (by decide) (by decide) SF rf O1) (rmG32 hw t1 kB c0 c1 c2 n0 V1 hr2 Sa Sh Sl O1) hr2) hr2 SC hcz O1) O1
theorem md40 (l : Launch) (Z : State) (a0 : Array Value) (hw : HW Z a0) {p : Program} {e : Env} {s : State} {m : MethodId} {args : Array Value} {below : List Frame} {meth : Method} {c : Code} {vm0 : Vm} {k0 : Nat} {T : State} {locs : List Loc} {h : Heap} {p1 p2 p3 p4 p5 p6 c0 c1 c2 c3 : Int32} {n0 : Nat} {cz : Int32} {fm : Value} {x1 t1 : Addr} {kB : ClassId} (X : Stand p l e room_1 (s.setVm vm0) m args below meth c T locs 4 20) (hx : p.tables.exec = Jvm.exec) (y : c.code = code) (hml : c.maxLocals = maxLocals) (hZ : Z.Warmed39 (s.setVm vm0).vm) (hown : (s.setVm vm0).vm.findClass "com/example/rulr/rulr/policy/MembershipSelectionPinLaw" = some m.cls) (hnm : meth.name = x.name) (hret : meth.sig.returnType = ret) (hlk : meth.locks = false) (eT : T.heap = h) (hS : s.Since vm0 k0) (hk : k0 ≤ h.size) (hR : CHr Z own_EL s.vm s.heap vm0 h) (N : Fr n0 locs) (hfb : Z.vm.findClass "[B" = some kB) (E1 : xS Z h x1) (Fv : fV Z h x1 t1) (Fc : fC Z h x1 0) (V1 : Arv Z h t1 kB .byte (4 : Int32) [.int (o8 c0), .int (o8 c1), .int (o8 c2), .int (o8 c3)] (.int 0)) (hr0 : rg c0) (hr1 : rg c1) (hr2 : rg c2) (hr3 : rg c3) (hl0 : ¬ (255 : Int32) < c0) (hl1 : ¬ (255 : Int32) < c1) (hl2 : ¬ (255 : Int32) < c2) (hl3 : ¬ (255 : Int32) < c3) (SC : sSC Z cz) (hcz : ¬ cz = 0) (SF : sSF Z fm) (rf : fm.isRef = true) (Sa : sSa Z) (Sh : sSh Z) (Sl : sSl Z) (O0 : Old Z n0 h) : Gl p e below (GdW s (fun v h L => v = some (.int 1) ∧ Fr n0 L) 32 4288) (T.setTop (mkF m 173 #[vi p1, vi p2, vi p3, vi p4, vi p5, vi p6, vi c0, vi c1, vi c2, vi c3, vi 4, vr x1, vu, vu, vu] [])) := by
  show Gf p e below _ T m 173 #[vi p1, vi p2, vi p3, vi p4, vi p5, vi p6, vi c0, vi c1, vi c2, vi c3, vi 4, vr x1, vu, vu, vu] []
  refine gs (fun _ k => XS.iloadN X.here hx rfl (hb y at_173) rfl (X.ldcInt hx hown (mvT hZ (w1 hw)) (g := (mkF m 174 #[vi p1, vi p2, vi p3, vi p4, vi p5, vi p6, vi c0, vi c1, vi c2, vi c3, vi 4, vr x1, vu, vu, vu] [(.int p4)])) rfl (hb y at_174) _ (XS.iand X.here hx rfl (hb y at_176) rfl (XS.iload X.here hx rfl (hb y at_177) rfl (XS.iconst X.here hx rfl (hb y at_179) (XS.iadd X.here hx rfl (hb y at_180) rfl k)))))) ?_
  show Gf p e below _ T m 181 #[vi p1, vi p2, vi p3, vi p4, vi p5, vi p6, vi c0, vi c1, vi c2, vi c3, vi 4, vr x1, vu, vu, vu] [(.int 5), (.int (p4 &&& (2147483647 : Int32)))]
  refine gs (fun _ k => iremM X hx rfl (hb y at_181) rfl (by decide) (XS.istore X.here hx rfl (hb y at_182) rfl (l' := #[vi p1, vi p2, vi p3, vi p4, vi p5, vi p6, vi c0, vi c1, vi c2, vi c3, vi 4, vr x1, vi ((p4 &&& (2147483647 : Int32)) % (5 : Int32)), vu, vu]) rfl k)) ?_
  show Gf p e below _ T m 184 #[vi p1, vi p2, vi p3, vi p4, vi p5, vi p6, vi c0, vi c1, vi c2, vi c3, vi 4, vr x1, vi ((p4 &&& (2147483647 : Int32)) % (5 : Int32)), vu, vu] []
  suffices J184 : ∀ ss : Int32, (ss = (0 : Int32) ∨ ss = (1 : Int32) ∨ ss = (2 : Int32) ∨ ss = (3 : Int32) ∨ ss = (4 : Int32)) → Gl p e below (GdW s (fun v h L => v = some (.int 1) ∧ Fr n0 L) 32 4288) (T.setTop (mkF m 184 #[vi p1, vi p2, vi p3, vi p4, vi p5, vi p6, vi c0, vi c1, vi c2, vi c3, vi 4, vr x1, vi ss, vu, vu] [])) from J184 _ (own_rm5 p4)
  intro ss hs_
  refine st184 l Z a0 hw (X.mono (by decide) (by decide)) hx y hml hZ hown hnm hret hlk eT hS hk hR N E1 Fv Fc V1 ?_ O0
  intro vm1 T1 lc am kk1 X1 hS1 hk1 hZ hown hR1 N1 O1 Em Fq Fs E1 Fv Fc V1
  rcases hs_ with rfl | rfl | rfl | rfl | rfl
  · refine Gl.callVE X1 hx hZ hS1 hk1 (own_el hw) hR1 (y := my34) (z := my34) hown (w59 hw) (w60 hw) (notFace_of_selects (args := #[]) (mvT hZ (w62 hw))) (w62 hw) (w61 hw) (w63 hw) (w34 hw) (desc_ne (by decide)) (rm := ro 7 2 4 152) (b := am) (argsL := []) (rest := []) Em (rmSlE hw _ am x1 (0 : Int32) (fun _ _ _ ⟨x, _, _, q, _⟩ => ⟨x, q⟩) Fq Fs E1 (rmTE0 hw x1 t1 (4 : Int32) cz fm n0 E1 Fv Fc (rmN40 hw x1 t1 kB c0 c1 c2 c3 cz n0 E1 Fv Fc V1 SC hcz O1) (by decide) (by decide) SC hcz SF rf O1)) 0 (by decide) (by decide) (by decide) (by decide) rfl hml.symm pd_27 rfl rfl (Nat.le_of_eq rfl) (hb y at_216) ?_
    intro v101 T101 L101 X101 hS101 hZ hown hQ101
    obtain ⟨x101, t101, k101, rfl, Ex101, Fv101, Fc101, Vq101, Kq101, Nq101⟩ := hQ101
    have N101 := Fr.app N1 Nq101
    have O101 := O1.keep Kq101 all0
    have hk101 := Nat.le_trans hk1 Kq101.1
    show Gf p e below _ T101 m 219 #[vi p1, vi p2, vi p3, vi p4, vi p5, vi p6, vi c0, vi c1, vi c2, vi c3, vi 4, vr x1, vi 0, vr am, vu] [(.ref x101)]
    exact tl0 l Z a0 hw (X101.mono (by decide) (by decide)) hx y hml hZ hown hnm hret hlk rfl hS101 (Nat.le_refl _) N101 Ex101 (rmN00 hw x101 t101 k101 cz n0 Ex101 Fv101 Fc101 Vq101 SC hcz O101)  O101
  · refine Gl.callV X1 hx hZ (y := my34) (z := my34) hown (w59 hw) (w60 hw) (notFace_of_selects (args := #[]) (mvT hZ (w62 hw))) (w62 hw) (w61 hw) (w63 hw) (w34 hw) (desc_ne (by decide)) (rm := ro 7 3 20 152) (b := am) (argsL := []) (rest := []) Em (rmSl hw _ am x1 (1 : Int32) (fun _ _ _ ⟨x, _, q, _⟩ => ⟨x, q⟩) Fq Fs E1 (rmTG0 hw _ x1 t1 (1 : Int32) (4 : Int32) cz fm n0 (fun _ _ _ ⟨x, _, q, _⟩ => ⟨x, q⟩) E1 Fv Fc (rmN40 hw x1 t1 kB c0 c1 c2 c3 cz n0 E1 Fv Fc V1 SC hcz O1) (by decide) (by decide) (by decide) (rmO41 hw t1 kB c0 c1 c2 c3 n0 V1 hfb hl0 O1) SC hcz SF rf O1)) 0 (by decide) (by decide) (by decide) (by decide) rfl hml.symm pd_27 rfl rfl (Nat.le_of_eq rfl) (hb y at_216) ?_
    intro v102 T102 L102 X102 hQ102
    obtain ⟨x102, t102, rfl, Ex102, Fq102, dj102, Kq102, Nq102⟩ := hQ102
    have N102 := Fr.app N1 Nq102
    have O102 := O1.keep Kq102 all0
    have hk102 := Nat.le_trans hk1 Kq102.1
    rcases dj102 with ⟨Fc102, Vs102, ha0⟩ | ⟨Fc102, Vs102⟩
    · show Gf p e below _ T102 m 219 #[vi p1, vi p2, vi p3, vi p4, vi p5, vi p6, vi c0, vi c1, vi c2, vi c3, vi 4, vr x1, vi 1, vr am, vu] [(.ref x102)]
      exact tl1 l Z a0 hw (X102.mono (by decide) (by decide)) hx y hml hZ hown hnm hret hlk rfl hS1 hk102 N102 Ex102 (rmN10 hw x102 t102 kB c0 cz n0 Ex102 Fq102 Fc102 Vs102 SC hcz O102) (rmCh0 hw x102 t102 (0 : Int32) c0 cz n0 Ex102 Fq102 Fc102 (rmW010 hw t102 kB c0 fm n0 Vs102 hr0 ha0 SF rf O102) hr0 SC hcz O102) O102
    · show Gf p e below _ T102 m 219 #[vi p1, vi p2, vi p3, vi p4, vi p5, vi p6, vi c0, vi c1, vi c2, vi c3, vi 4, vr x1, vi 1, vr am, vu] [(.ref x102)]
      exact tl1 l Z a0 hw (X102.mono (by decide) (by decide)) hx y hml hZ hown hnm hret hlk rfl hS1 hk102 N102 Ex102 (rmN11 hw x102 t102 kB c0 cz n0 Ex102 Fq102 Fc102 Vs102 SC hcz O102) (rmCh1 hw x102 t102 (0 : Int32) c0 cz n0 Ex102 Fq102 Fc102 (rmW1 hw t102 (0 : Int32) c0 (rmX4 hw t102 (0 : Int32) (1 : Int32) fm n0 (rmX31 hw t102 kB _ Vs102) (by decide) (by decide) SF rf O102) (rmG10 hw t102 kB c0 n0 Vs102 hr0 Sa Sh Sl O102) hr0) hr0 SC hcz O102) O102
  · refine Gl.callV X1 hx hZ (y := my34) (z := my34) hown (w59 hw) (w60 hw) (notFace_of_selects (args := #[]) (mvT hZ (w62 hw))) (w62 hw) (w61 hw) (w63 hw) (w34 hw) (desc_ne (by decide)) (rm := ro 7 3 20 152) (b := am) (argsL := []) (rest := []) Em (rmSl hw _ am x1 (2 : Int32) (fun _ _ _ ⟨x, _, q, _⟩ => ⟨x, q⟩) Fq Fs E1 (rmTG0 hw _ x1 t1 (2 : Int32) (4 : Int32) cz fm n0 (fun _ _ _ ⟨x, _, q, _⟩ => ⟨x, q⟩) E1 Fv Fc (rmN40 hw x1 t1 kB c0 c1 c2 c3 cz n0 E1 Fv Fc V1 SC hcz O1) (by decide) (by decide) (by decide) (rmO42 hw t1 kB c0 c1 c2 c3 n0 V1 hfb hl0 hl1 O1) SC hcz SF rf O1)) 0 (by decide) (by decide) (by decide) (by decide) rfl hml.symm pd_27 rfl rfl (Nat.le_of_eq rfl) (hb y at_216) ?_
    intro v103 T103 L103 X103 hQ103
    obtain ⟨x103, t103, rfl, Ex103, Fq103, dj103, Kq103, Nq103⟩ := hQ103
    have N103 := Fr.app N1 Nq103
    have O103 := O1.keep Kq103 all0
    have hk103 := Nat.le_trans hk1 Kq103.1
    rcases dj103 with ⟨Fc103, Vs103, ha0, ha1⟩ | ⟨Fc103, Vs103⟩
    · show Gf p e below _ T103 m 219 #[vi p1, vi p2, vi p3, vi p4, vi p5, vi p6, vi c0, vi c1, vi c2, vi c3, vi 4, vr x1, vi 2, vr am, vu] [(.ref x103)]
      exact tl2 l Z a0 hw (X103.mono (by decide) (by decide)) hx y hml hZ hown hnm hret hlk rfl hS1 hk103 N103 Ex103 (rmN20 hw x103 t103 kB c0 c1 cz n0 Ex103 Fq103 Fc103 Vs103 SC hcz O103) (rmCh0 hw x103 t103 (0 : Int32) c0 cz n0 Ex103 Fq103 Fc103 (rmW020 hw t103 kB c0 c1 fm n0 Vs103 hr0 ha0 SF rf O103) hr0 SC hcz O103) (rmCh0 hw x103 t103 (1 : Int32) c1 cz n0 Ex103 Fq103 Fc103 (rmW021 hw t103 kB c0 c1 fm n0 Vs103 hr1 ha1 SF rf O103) hr1 SC hcz O103) O103
    · show Gf p e below _ T103 m 219 #[vi p1, vi p2, vi p3, vi p4, vi p5, vi p6, vi c0, vi c1, vi c2, vi c3, vi 4, vr x1, vi 2, vr am, vu] [(.ref x103)]
      exact tl2 l Z a0 hw (X103.mono (by decide) (by decide)) hx y hml hZ hown hnm hret hlk rfl hS1 hk103 N103 Ex103 (rmN21 hw x103 t103 kB c0 c1 cz n0 Ex103 Fq103 Fc103 Vs103 SC hcz O103) (rmCh1 hw x103 t103 (0 : Int32) c0 cz n0 Ex103 Fq103 Fc103 (rmW1 hw t103 (0 : Int32) c0 (rmX4 hw t103 (0 : Int32) (2 : Int32) fm n0 (rmX32 hw t103 kB _ Vs103) (by decide) (by decide) SF rf O103) (rmG20 hw t103 kB c0 c1 n0 Vs103 hr0 Sa Sh Sl O103) hr0) hr0 SC hcz O103) (rmCh1 hw x103 t103 (1 : Int32) c1 cz n0 Ex103 Fq103 Fc103 (rmW1 hw t103 (1 : Int32) c1 (rmX4 hw t103 (1 : Int32) (2 : Int32) fm n0 (rmX32 hw t103 kB _ Vs103) (by decide) (by decide) SF rf O103) (rmG21 hw t103 kB c0 c1 n0 Vs103 hr1 Sa Sh Sl O103) hr1) hr1 SC hcz O103) O103
  · refine Gl.callV X1 hx hZ (y := my34) (z := my34) hown (w59 hw) (w60 hw) (notFace_of_selects (args := #[]) (mvT hZ (w62 hw))) (w62 hw) (w61 hw) (w63 hw) (w34 hw) (desc_ne (by decide)) (rm := ro 7 3 20 152) (b := am) (argsL := []) (rest := []) Em (rmSl hw _ am x1 (3 : Int32) (fun _ _ _ ⟨x, _, q, _⟩ => ⟨x, q⟩) Fq Fs E1 (rmTG0 hw _ x1 t1 (3 : Int32) (4 : Int32) cz fm n0 (fun _ _ _ ⟨x, _, q, _⟩ => ⟨x, q⟩) E1 Fv Fc (rmN40 hw x1 t1 kB c0 c1 c2 c3 cz n0 E1 Fv Fc V1 SC hcz O1) (by decide) (by decide) (by decide) (rmO43 hw t1 kB c0 c1 c2 c3 n0 V1 hfb hl0 hl1 hl2 O1) SC hcz SF rf O1)) 0 (by decide) (by decide) (by decide) (by decide) rfl hml.symm pd_27 rfl rfl (Nat.le_of_eq rfl) (hb y at_216) ?_
    intro v104 T104 L104 X104 hQ104
    obtain ⟨x104, t104, rfl, Ex104, Fq104, dj104, Kq104, Nq104⟩ := hQ104
    have N104 := Fr.app N1 Nq104
    have O104 := O1.keep Kq104 all0
    have hk104 := Nat.le_trans hk1 Kq104.1
    rcases dj104 with ⟨Fc104, Vs104, ha0, ha1, ha2⟩ | ⟨Fc104, Vs104⟩
    · show Gf p e below _ T104 m 219 #[vi p1, vi p2, vi p3, vi p4, vi p5, vi p6, vi c0, vi c1, vi c2, vi c3, vi 4, vr x1, vi 3, vr am, vu] [(.ref x104)]
      exact tl3 l Z a0 hw (X104.mono (by decide) (by decide)) hx y hml hZ hown hnm hret hlk rfl hS1 hk104 N104 Ex104 (rmN30 hw x104 t104 kB c0 c1 c2 cz n0 Ex104 Fq104 Fc104 Vs104 SC hcz O104) (rmCh0 hw x104 t104 (0 : Int32) c0 cz n0 Ex104 Fq104 Fc104 (rmW030 hw t104 kB c0 c1 c2 fm n0 Vs104 hr0 ha0 SF rf O104) hr0 SC hcz O104) (rmCh0 hw x104 t104 (1 : Int32) c1 cz n0 Ex104 Fq104 Fc104 (rmW031 hw t104 kB c0 c1 c2 fm n0 Vs104 hr1 ha1 SF rf O104) hr1 SC hcz O104) (rmCh0 hw x104 t104 (2 : Int32) c2 cz n0 Ex104 Fq104 Fc104 (rmW032 hw t104 kB c0 c1 c2 fm n0 Vs104 hr2 ha2 SF rf O104) hr2 SC hcz O104) O104
    · show Gf p e below _ T104 m 219 #[vi p1, vi p2, vi p3, vi p4, vi p5, vi p6, vi c0, vi c1, vi c2, vi c3, vi 4, vr x1, vi 3, vr am, vu] [(.ref x104)]
      exact tl3 l Z a0 hw (X104.mono (by decide) (by decide)) hx y hml hZ hown hnm hret hlk rfl hS1 hk104 N104 Ex104 (rmN31 hw x104 t104 kB c0 c1 c2 cz n0 Ex104 Fq104 Fc104 Vs104 SC hcz O104) (rmCh1 hw x104 t104 (0 : Int32) c0 cz n0 Ex104 Fq104 Fc104 (rmW1 hw t104 (0 : Int32) c0 (rmX4 hw t104 (0 : Int32) (3 : Int32) fm n0 (rmX33 hw t104 kB _ Vs104) (by decide) (by decide) SF rf O104) (rmG30 hw t104 kB c0 c1 c2 n0 Vs104 hr0 Sa Sh Sl O104) hr0) hr0 SC hcz O104) (rmCh1 hw x104 t104 (1 : Int32) c1 cz n0 Ex104 Fq104 Fc104 (rmW1 hw t104 (1 : Int32) c1 (rmX4 hw t104 (1 : Int32) (3 : Int32) fm n0 (rmX33 hw t104 kB _ Vs104) (by decide) (by decide) SF rf O104) (rmG31 hw t104 kB c0 c1 c2 n0 Vs104 hr1 Sa Sh Sl O104) hr1) hr1 SC hcz O104) (rmCh1 hw x104 t104 (2 : Int32) c2 cz n0 Ex104 Fq104 Fc104 (rmW1 hw t104 (2 : Int32) c2 (rmX4 hw t104 (2 : Int32) (3 : Int32) fm n0 (rmX33 hw t104 kB _ Vs104) (by decide) (by decide) SF rf O104) (rmG32 hw t104 kB c0 c1 c2 n0 Vs104 hr2 Sa Sh Sl O104) hr2) hr2 SC hcz O104) O104
  · refine Gl.callV0 X1 hx hZ (y := my34) (z := my34) hown (w59 hw) (w60 hw) (notFace_of_selects (args := #[]) (mvT hZ (w62 hw))) (w62 hw) (w61 hw) (w63 hw) (w34 hw) (desc_ne (by decide)) (b := am) (argsL := []) (rest := []) Em (rmSlP hw am x1 (4 : Int32) Fq Fs E1 (rmTP hw x1 (4 : Int32) fm n0 E1 (rmN40 hw x1 t1 kB c0 c1 c2 c3 cz n0 E1 Fv Fc V1 SC hcz O1) (by decide) SF rf O1)) 0 (by decide) (by decide) rfl hml.symm pd_27 rfl rfl (Nat.le_of_eq rfl) (hb y at_216) (by decide) (by decide) ?_
    intro v105 T105 X105 e105 hv105
    subst hv105
    show Gf p e below _ T105 m 219 #[vi p1, vi p2, vi p3, vi p4, vi p5, vi p6, vi c0, vi c1, vi c2, vi c3, vi 4, vr x1, vi 4, vr am, vu] [(.ref x1)]
    exact tl4 l Z a0 hw (X105.mono (by decide) (by decide)) hx y hml hZ hown hnm hret hlk e105 hS1 hk1 N1 E1 (rmN40 hw x1 t1 kB c0 c1 c2 c3 cz n0 E1 Fv Fc V1 SC hcz O1) (rmCh0 hw x1 t1 (0 : Int32) c0 cz n0 E1 Fv Fc (rmW040 hw t1 kB c0 c1 c2 c3 fm n0 V1 hr0 hl0 SF rf O1) hr0 SC hcz O1) (rmCh0 hw x1 t1 (1 : Int32) c1 cz n0 E1 Fv Fc (rmW041 hw t1 kB c0 c1 c2 c3 fm n0 V1 hr1 hl1 SF rf O1) hr1 SC hcz O1) (rmCh0 hw x1 t1 (2 : Int32) c2 cz n0 E1 Fv Fc (rmW042 hw t1 kB c0 c1 c2 c3 fm n0 V1 hr2 hl2 SF rf O1) hr2 SC hcz O1) (rmCh0 hw x1 t1 (3 : Int32) c3 cz n0 E1 Fv Fc (rmW043 hw t1 kB c0 c1 c2 c3 fm n0 V1 hr3 hl3 SF rf O1) hr3 SC hcz O1) O1
theorem md41 (l : Launch) (Z : State) (a0 : Array Value) (hw : HW Z a0) {p : Program} {e : Env} {s : State} {m : MethodId} {args : Array Value} {below : List Frame} {meth : Method} {c : Code} {vm0 : Vm} {k0 : Nat} {T : State} {locs : List Loc} {h : Heap} {p1 p2 p3 p4 p5 p6 c0 c1 c2 c3 : Int32} {n0 : Nat} {cz : Int32} {fm : Value} {x1 t1 : Addr} {kB : ClassId} (X : Stand p l e room_1 (s.setVm vm0) m args below meth c T locs 4 20) (hx : p.tables.exec = Jvm.exec) (y : c.code = code) (hml : c.maxLocals = maxLocals) (hZ : Z.Warmed39 (s.setVm vm0).vm) (hown : (s.setVm vm0).vm.findClass "com/example/rulr/rulr/policy/MembershipSelectionPinLaw" = some m.cls) (hnm : meth.name = x.name) (hret : meth.sig.returnType = ret) (hlk : meth.locks = false) (eT : T.heap = h) (hS : s.Since vm0 k0) (hk : k0 ≤ h.size) (hR : CHr Z own_EL s.vm s.heap vm0 h) (N : Fr n0 locs) (hfb : Z.vm.findClass "[B" = some kB) (E1 : xS Z h x1) (Fv : fV Z h x1 t1) (Fc : fC Z h x1 1) (V1 : Arv Z h t1 kB .byte (8 : Int32) [.int (oh c0), .int (ol c0), .int (oh c1), .int (ol c1), .int (oh c2), .int (ol c2), .int (oh c3), .int (ol c3)] (.int 0)) (hr0 : rg c0) (hr1 : rg c1) (hr2 : rg c2) (hr3 : rg c3) (SC : sSC Z cz) (hcz : ¬ cz = 0) (SF : sSF Z fm) (rf : fm.isRef = true) (Sa : sSa Z) (Sh : sSh Z) (Sl : sSl Z) (O0 : Old Z n0 h) : Gl p e below (GdW s (fun v h L => v = some (.int 1) ∧ Fr n0 L) 32 4288) (T.setTop (mkF m 173 #[vi p1, vi p2, vi p3, vi p4, vi p5, vi p6, vi c0, vi c1, vi c2, vi c3, vi 4, vr x1, vu, vu, vu] [])) := by
  show Gf p e below _ T m 173 #[vi p1, vi p2, vi p3, vi p4, vi p5, vi p6, vi c0, vi c1, vi c2, vi c3, vi 4, vr x1, vu, vu, vu] []
  refine gs (fun _ k => XS.iloadN X.here hx rfl (hb y at_173) rfl (X.ldcInt hx hown (mvT hZ (w1 hw)) (g := (mkF m 174 #[vi p1, vi p2, vi p3, vi p4, vi p5, vi p6, vi c0, vi c1, vi c2, vi c3, vi 4, vr x1, vu, vu, vu] [(.int p4)])) rfl (hb y at_174) _ (XS.iand X.here hx rfl (hb y at_176) rfl (XS.iload X.here hx rfl (hb y at_177) rfl (XS.iconst X.here hx rfl (hb y at_179) (XS.iadd X.here hx rfl (hb y at_180) rfl k)))))) ?_
  show Gf p e below _ T m 181 #[vi p1, vi p2, vi p3, vi p4, vi p5, vi p6, vi c0, vi c1, vi c2, vi c3, vi 4, vr x1, vu, vu, vu] [(.int 5), (.int (p4 &&& (2147483647 : Int32)))]
  refine gs (fun _ k => iremM X hx rfl (hb y at_181) rfl (by decide) (XS.istore X.here hx rfl (hb y at_182) rfl (l' := #[vi p1, vi p2, vi p3, vi p4, vi p5, vi p6, vi c0, vi c1, vi c2, vi c3, vi 4, vr x1, vi ((p4 &&& (2147483647 : Int32)) % (5 : Int32)), vu, vu]) rfl k)) ?_
  show Gf p e below _ T m 184 #[vi p1, vi p2, vi p3, vi p4, vi p5, vi p6, vi c0, vi c1, vi c2, vi c3, vi 4, vr x1, vi ((p4 &&& (2147483647 : Int32)) % (5 : Int32)), vu, vu] []
  suffices J184 : ∀ ss : Int32, (ss = (0 : Int32) ∨ ss = (1 : Int32) ∨ ss = (2 : Int32) ∨ ss = (3 : Int32) ∨ ss = (4 : Int32)) → Gl p e below (GdW s (fun v h L => v = some (.int 1) ∧ Fr n0 L) 32 4288) (T.setTop (mkF m 184 #[vi p1, vi p2, vi p3, vi p4, vi p5, vi p6, vi c0, vi c1, vi c2, vi c3, vi 4, vr x1, vi ss, vu, vu] [])) from J184 _ (own_rm5 p4)
  intro ss hs_
  refine st184 l Z a0 hw (X.mono (by decide) (by decide)) hx y hml hZ hown hnm hret hlk eT hS hk hR N E1 Fv Fc V1 ?_ O0
  intro vm1 T1 lc am kk1 X1 hS1 hk1 hZ hown hR1 N1 O1 Em Fq Fs E1 Fv Fc V1
  rcases hs_ with rfl | rfl | rfl | rfl | rfl
  · refine Gl.callVE X1 hx hZ hS1 hk1 (own_el hw) hR1 (y := my34) (z := my34) hown (w59 hw) (w60 hw) (notFace_of_selects (args := #[]) (mvT hZ (w62 hw))) (w62 hw) (w61 hw) (w63 hw) (w34 hw) (desc_ne (by decide)) (rm := ro 7 2 4 152) (b := am) (argsL := []) (rest := []) Em (rmSlE hw _ am x1 (0 : Int32) (fun _ _ _ ⟨x, _, _, q, _⟩ => ⟨x, q⟩) Fq Fs E1 (rmTE1 hw x1 t1 (4 : Int32) cz fm n0 E1 Fv Fc (rmN41 hw x1 t1 kB c0 c1 c2 c3 cz n0 E1 Fv Fc V1 SC hcz O1) (by decide) (by decide) SC hcz SF rf O1)) 0 (by decide) (by decide) (by decide) (by decide) rfl hml.symm pd_27 rfl rfl (Nat.le_of_eq rfl) (hb y at_216) ?_
    intro v101 T101 L101 X101 hS101 hZ hown hQ101
    obtain ⟨x101, t101, k101, rfl, Ex101, Fv101, Fc101, Vq101, Kq101, Nq101⟩ := hQ101
    have N101 := Fr.app N1 Nq101
    have O101 := O1.keep Kq101 all0
    have hk101 := Nat.le_trans hk1 Kq101.1
    show Gf p e below _ T101 m 219 #[vi p1, vi p2, vi p3, vi p4, vi p5, vi p6, vi c0, vi c1, vi c2, vi c3, vi 4, vr x1, vi 0, vr am, vu] [(.ref x101)]
    exact tl0 l Z a0 hw (X101.mono (by decide) (by decide)) hx y hml hZ hown hnm hret hlk rfl hS101 (Nat.le_refl _) N101 Ex101 (rmN00 hw x101 t101 k101 cz n0 Ex101 Fv101 Fc101 Vq101 SC hcz O101)  O101
  · refine Gl.callV X1 hx hZ (y := my34) (z := my34) hown (w59 hw) (w60 hw) (notFace_of_selects (args := #[]) (mvT hZ (w62 hw))) (w62 hw) (w61 hw) (w63 hw) (w34 hw) (desc_ne (by decide)) (rm := ro 7 3 20 152) (b := am) (argsL := []) (rest := []) Em (rmSl hw _ am x1 (1 : Int32) (fun _ _ _ ⟨x, _, q, _⟩ => ⟨x, q⟩) Fq Fs E1 (rmTG1 hw _ x1 t1 (1 : Int32) (4 : Int32) cz fm n0 (fun _ _ _ ⟨x, _, q, _⟩ => ⟨x, q⟩) E1 Fv Fc (rmN41 hw x1 t1 kB c0 c1 c2 c3 cz n0 E1 Fv Fc V1 SC hcz O1) (by decide) (by decide) (by decide) (rmS841 hw t1 kB c0 c1 c2 c3 cz fm n0 hfb V1 hr0 hr1 hr2 hr3 SC hcz SF rf Sa Sh Sl O1) SC hcz SF rf O1)) 0 (by decide) (by decide) (by decide) (by decide) rfl hml.symm pd_27 rfl rfl (Nat.le_of_eq rfl) (hb y at_216) ?_
    intro v102 T102 L102 X102 hQ102
    obtain ⟨x102, t102, rfl, Ex102, Fq102, dj102, Kq102, Nq102⟩ := hQ102
    have N102 := Fr.app N1 Nq102
    have O102 := O1.keep Kq102 all0
    have hk102 := Nat.le_trans hk1 Kq102.1
    rcases dj102 with ⟨Fc102, Vs102, ha0⟩ | ⟨Fc102, Vs102⟩
    · show Gf p e below _ T102 m 219 #[vi p1, vi p2, vi p3, vi p4, vi p5, vi p6, vi c0, vi c1, vi c2, vi c3, vi 4, vr x1, vi 1, vr am, vu] [(.ref x102)]
      exact tl1 l Z a0 hw (X102.mono (by decide) (by decide)) hx y hml hZ hown hnm hret hlk rfl hS1 hk102 N102 Ex102 (rmN10 hw x102 t102 kB c0 cz n0 Ex102 Fq102 Fc102 Vs102 SC hcz O102) (rmCh0 hw x102 t102 (0 : Int32) c0 cz n0 Ex102 Fq102 Fc102 (rmW010 hw t102 kB c0 fm n0 Vs102 hr0 ha0 SF rf O102) hr0 SC hcz O102) O102
    · show Gf p e below _ T102 m 219 #[vi p1, vi p2, vi p3, vi p4, vi p5, vi p6, vi c0, vi c1, vi c2, vi c3, vi 4, vr x1, vi 1, vr am, vu] [(.ref x102)]
      exact tl1 l Z a0 hw (X102.mono (by decide) (by decide)) hx y hml hZ hown hnm hret hlk rfl hS1 hk102 N102 Ex102 (rmN11 hw x102 t102 kB c0 cz n0 Ex102 Fq102 Fc102 Vs102 SC hcz O102) (rmCh1 hw x102 t102 (0 : Int32) c0 cz n0 Ex102 Fq102 Fc102 (rmW1 hw t102 (0 : Int32) c0 (rmX4 hw t102 (0 : Int32) (1 : Int32) fm n0 (rmX31 hw t102 kB _ Vs102) (by decide) (by decide) SF rf O102) (rmG10 hw t102 kB c0 n0 Vs102 hr0 Sa Sh Sl O102) hr0) hr0 SC hcz O102) O102
  · refine Gl.callV X1 hx hZ (y := my34) (z := my34) hown (w59 hw) (w60 hw) (notFace_of_selects (args := #[]) (mvT hZ (w62 hw))) (w62 hw) (w61 hw) (w63 hw) (w34 hw) (desc_ne (by decide)) (rm := ro 7 3 20 152) (b := am) (argsL := []) (rest := []) Em (rmSl hw _ am x1 (2 : Int32) (fun _ _ _ ⟨x, _, q, _⟩ => ⟨x, q⟩) Fq Fs E1 (rmTG1 hw _ x1 t1 (2 : Int32) (4 : Int32) cz fm n0 (fun _ _ _ ⟨x, _, q, _⟩ => ⟨x, q⟩) E1 Fv Fc (rmN41 hw x1 t1 kB c0 c1 c2 c3 cz n0 E1 Fv Fc V1 SC hcz O1) (by decide) (by decide) (by decide) (rmS842 hw t1 kB c0 c1 c2 c3 cz fm n0 hfb V1 hr0 hr1 hr2 hr3 SC hcz SF rf Sa Sh Sl O1) SC hcz SF rf O1)) 0 (by decide) (by decide) (by decide) (by decide) rfl hml.symm pd_27 rfl rfl (Nat.le_of_eq rfl) (hb y at_216) ?_
    intro v103 T103 L103 X103 hQ103
    obtain ⟨x103, t103, rfl, Ex103, Fq103, dj103, Kq103, Nq103⟩ := hQ103
    have N103 := Fr.app N1 Nq103
    have O103 := O1.keep Kq103 all0
    have hk103 := Nat.le_trans hk1 Kq103.1
    rcases dj103 with ⟨Fc103, Vs103, ha0, ha1⟩ | ⟨Fc103, Vs103⟩
    · show Gf p e below _ T103 m 219 #[vi p1, vi p2, vi p3, vi p4, vi p5, vi p6, vi c0, vi c1, vi c2, vi c3, vi 4, vr x1, vi 2, vr am, vu] [(.ref x103)]
      exact tl2 l Z a0 hw (X103.mono (by decide) (by decide)) hx y hml hZ hown hnm hret hlk rfl hS1 hk103 N103 Ex103 (rmN20 hw x103 t103 kB c0 c1 cz n0 Ex103 Fq103 Fc103 Vs103 SC hcz O103) (rmCh0 hw x103 t103 (0 : Int32) c0 cz n0 Ex103 Fq103 Fc103 (rmW020 hw t103 kB c0 c1 fm n0 Vs103 hr0 ha0 SF rf O103) hr0 SC hcz O103) (rmCh0 hw x103 t103 (1 : Int32) c1 cz n0 Ex103 Fq103 Fc103 (rmW021 hw t103 kB c0 c1 fm n0 Vs103 hr1 ha1 SF rf O103) hr1 SC hcz O103) O103
    · show Gf p e below _ T103 m 219 #[vi p1, vi p2, vi p3, vi p4, vi p5, vi p6, vi c0, vi c1, vi c2, vi c3, vi 4, vr x1, vi 2, vr am, vu] [(.ref x103)]
      exact tl2 l Z a0 hw (X103.mono (by decide) (by decide)) hx y hml hZ hown hnm hret hlk rfl hS1 hk103 N103 Ex103 (rmN21 hw x103 t103 kB c0 c1 cz n0 Ex103 Fq103 Fc103 Vs103 SC hcz O103) (rmCh1 hw x103 t103 (0 : Int32) c0 cz n0 Ex103 Fq103 Fc103 (rmW1 hw t103 (0 : Int32) c0 (rmX4 hw t103 (0 : Int32) (2 : Int32) fm n0 (rmX32 hw t103 kB _ Vs103) (by decide) (by decide) SF rf O103) (rmG20 hw t103 kB c0 c1 n0 Vs103 hr0 Sa Sh Sl O103) hr0) hr0 SC hcz O103) (rmCh1 hw x103 t103 (1 : Int32) c1 cz n0 Ex103 Fq103 Fc103 (rmW1 hw t103 (1 : Int32) c1 (rmX4 hw t103 (1 : Int32) (2 : Int32) fm n0 (rmX32 hw t103 kB _ Vs103) (by decide) (by decide) SF rf O103) (rmG21 hw t103 kB c0 c1 n0 Vs103 hr1 Sa Sh Sl O103) hr1) hr1 SC hcz O103) O103
  · refine Gl.callV X1 hx hZ (y := my34) (z := my34) hown (w59 hw) (w60 hw) (notFace_of_selects (args := #[]) (mvT hZ (w62 hw))) (w62 hw) (w61 hw) (w63 hw) (w34 hw) (desc_ne (by decide)) (rm := ro 7 3 20 152) (b := am) (argsL := []) (rest := []) Em (rmSl hw _ am x1 (3 : Int32) (fun _ _ _ ⟨x, _, q, _⟩ => ⟨x, q⟩) Fq Fs E1 (rmTG1 hw _ x1 t1 (3 : Int32) (4 : Int32) cz fm n0 (fun _ _ _ ⟨x, _, q, _⟩ => ⟨x, q⟩) E1 Fv Fc (rmN41 hw x1 t1 kB c0 c1 c2 c3 cz n0 E1 Fv Fc V1 SC hcz O1) (by decide) (by decide) (by decide) (rmS843 hw t1 kB c0 c1 c2 c3 cz fm n0 hfb V1 hr0 hr1 hr2 hr3 SC hcz SF rf Sa Sh Sl O1) SC hcz SF rf O1)) 0 (by decide) (by decide) (by decide) (by decide) rfl hml.symm pd_27 rfl rfl (Nat.le_of_eq rfl) (hb y at_216) ?_
    intro v104 T104 L104 X104 hQ104
    obtain ⟨x104, t104, rfl, Ex104, Fq104, dj104, Kq104, Nq104⟩ := hQ104
    have N104 := Fr.app N1 Nq104
    have O104 := O1.keep Kq104 all0
    have hk104 := Nat.le_trans hk1 Kq104.1
    rcases dj104 with ⟨Fc104, Vs104, ha0, ha1, ha2⟩ | ⟨Fc104, Vs104⟩
    · show Gf p e below _ T104 m 219 #[vi p1, vi p2, vi p3, vi p4, vi p5, vi p6, vi c0, vi c1, vi c2, vi c3, vi 4, vr x1, vi 3, vr am, vu] [(.ref x104)]
      exact tl3 l Z a0 hw (X104.mono (by decide) (by decide)) hx y hml hZ hown hnm hret hlk rfl hS1 hk104 N104 Ex104 (rmN30 hw x104 t104 kB c0 c1 c2 cz n0 Ex104 Fq104 Fc104 Vs104 SC hcz O104) (rmCh0 hw x104 t104 (0 : Int32) c0 cz n0 Ex104 Fq104 Fc104 (rmW030 hw t104 kB c0 c1 c2 fm n0 Vs104 hr0 ha0 SF rf O104) hr0 SC hcz O104) (rmCh0 hw x104 t104 (1 : Int32) c1 cz n0 Ex104 Fq104 Fc104 (rmW031 hw t104 kB c0 c1 c2 fm n0 Vs104 hr1 ha1 SF rf O104) hr1 SC hcz O104) (rmCh0 hw x104 t104 (2 : Int32) c2 cz n0 Ex104 Fq104 Fc104 (rmW032 hw t104 kB c0 c1 c2 fm n0 Vs104 hr2 ha2 SF rf O104) hr2 SC hcz O104) O104
    · show Gf p e below _ T104 m 219 #[vi p1, vi p2, vi p3, vi p4, vi p5, vi p6, vi c0, vi c1, vi c2, vi c3, vi 4, vr x1, vi 3, vr am, vu] [(.ref x104)]
      exact tl3 l Z a0 hw (X104.mono (by decide) (by decide)) hx y hml hZ hown hnm hret hlk rfl hS1 hk104 N104 Ex104 (rmN31 hw x104 t104 kB c0 c1 c2 cz n0 Ex104 Fq104 Fc104 Vs104 SC hcz O104) (rmCh1 hw x104 t104 (0 : Int32) c0 cz n0 Ex104 Fq104 Fc104 (rmW1 hw t104 (0 : Int32) c0 (rmX4 hw t104 (0 : Int32) (3 : Int32) fm n0 (rmX33 hw t104 kB _ Vs104) (by decide) (by decide) SF rf O104) (rmG30 hw t104 kB c0 c1 c2 n0 Vs104 hr0 Sa Sh Sl O104) hr0) hr0 SC hcz O104) (rmCh1 hw x104 t104 (1 : Int32) c1 cz n0 Ex104 Fq104 Fc104 (rmW1 hw t104 (1 : Int32) c1 (rmX4 hw t104 (1 : Int32) (3 : Int32) fm n0 (rmX33 hw t104 kB _ Vs104) (by decide) (by decide) SF rf O104) (rmG31 hw t104 kB c0 c1 c2 n0 Vs104 hr1 Sa Sh Sl O104) hr1) hr1 SC hcz O104) (rmCh1 hw x104 t104 (2 : Int32) c2 cz n0 Ex104 Fq104 Fc104 (rmW1 hw t104 (2 : Int32) c2 (rmX4 hw t104 (2 : Int32) (3 : Int32) fm n0 (rmX33 hw t104 kB _ Vs104) (by decide) (by decide) SF rf O104) (rmG32 hw t104 kB c0 c1 c2 n0 Vs104 hr2 Sa Sh Sl O104) hr2) hr2 SC hcz O104) O104
  · refine Gl.callV0 X1 hx hZ (y := my34) (z := my34) hown (w59 hw) (w60 hw) (notFace_of_selects (args := #[]) (mvT hZ (w62 hw))) (w62 hw) (w61 hw) (w63 hw) (w34 hw) (desc_ne (by decide)) (b := am) (argsL := []) (rest := []) Em (rmSlP hw am x1 (4 : Int32) Fq Fs E1 (rmTP hw x1 (4 : Int32) fm n0 E1 (rmN41 hw x1 t1 kB c0 c1 c2 c3 cz n0 E1 Fv Fc V1 SC hcz O1) (by decide) SF rf O1)) 0 (by decide) (by decide) rfl hml.symm pd_27 rfl rfl (Nat.le_of_eq rfl) (hb y at_216) (by decide) (by decide) ?_
    intro v105 T105 X105 e105 hv105
    subst hv105
    show Gf p e below _ T105 m 219 #[vi p1, vi p2, vi p3, vi p4, vi p5, vi p6, vi c0, vi c1, vi c2, vi c3, vi 4, vr x1, vi 4, vr am, vu] [(.ref x1)]
    exact tl4 l Z a0 hw (X105.mono (by decide) (by decide)) hx y hml hZ hown hnm hret hlk e105 hS1 hk1 N1 E1 (rmN41 hw x1 t1 kB c0 c1 c2 c3 cz n0 E1 Fv Fc V1 SC hcz O1) (rmCh1 hw x1 t1 (0 : Int32) c0 cz n0 E1 Fv Fc (rmW1 hw t1 (0 : Int32) c0 (rmX4 hw t1 (0 : Int32) (4 : Int32) fm n0 (rmX34 hw t1 kB _ V1) (by decide) (by decide) SF rf O1) (rmG40 hw t1 kB c0 c1 c2 c3 n0 V1 hr0 Sa Sh Sl O1) hr0) hr0 SC hcz O1) (rmCh1 hw x1 t1 (1 : Int32) c1 cz n0 E1 Fv Fc (rmW1 hw t1 (1 : Int32) c1 (rmX4 hw t1 (1 : Int32) (4 : Int32) fm n0 (rmX34 hw t1 kB _ V1) (by decide) (by decide) SF rf O1) (rmG41 hw t1 kB c0 c1 c2 c3 n0 V1 hr1 Sa Sh Sl O1) hr1) hr1 SC hcz O1) (rmCh1 hw x1 t1 (2 : Int32) c2 cz n0 E1 Fv Fc (rmW1 hw t1 (2 : Int32) c2 (rmX4 hw t1 (2 : Int32) (4 : Int32) fm n0 (rmX34 hw t1 kB _ V1) (by decide) (by decide) SF rf O1) (rmG42 hw t1 kB c0 c1 c2 c3 n0 V1 hr2 Sa Sh Sl O1) hr2) hr2 SC hcz O1) (rmCh1 hw x1 t1 (3 : Int32) c3 cz n0 E1 Fv Fc (rmW1 hw t1 (3 : Int32) c3 (rmX4 hw t1 (3 : Int32) (4 : Int32) fm n0 (rmX34 hw t1 kB _ V1) (by decide) (by decide) SF rf O1) (rmG43 hw t1 kB c0 c1 c2 c3 n0 V1 hr3 Sa Sh Sl O1) hr3) hr3 SC hcz O1) O1
theorem ef_35 (m : MethodId) (x0 : Int32) (x1 : Int32) (x2 : Int32) (x3 : Int32) (x4 : Int32) (x5 : Int32) : entryFrame m #[(.int x0), (.int x1), (.int x2), (.int x3), (.int x4), (.int x5)] maxLocals = mkF m 0 #[vi x0, vi x1, vi x2, vi x3, vi x4, vi x5, vu, vu, vu, vu, vu, vu, vu, vu, vu] [] := by first | (simp [entryFrame, mkF, argsToLocals, Value.category, maxLocals]; done) | rfl
theorem pn_6 : plainName "com/example/rulr/rulr/policy/MembershipSelectionPinLaw" = true := by first | (simp [plainName, overriddenIn]; done) | decide +kernel
theorem w0 (hw : HW Z a0) : (Jvm.Cond.constant "com/example/rulr/rulr/policy/MembershipSelectionPinLaw" (7 : Nat) (65535 : Int32)).before a0 Z = true := hw _ (wm 0 rfl)
theorem w2 (hw : HW Z a0) : (Jvm.Cond.classLink "com/example/rulr/rulr/policy/MembershipSelectionPinLaw" (11 : Nat) "java/lang/String").before a0 Z = true := hw _ (wm 2 rfl)
theorem w5 (hw : HW Z a0) : (Jvm.Cond.arrayClass Jvm.ClassFile.FieldType.char).before a0 Z = true := hw _ (wm 5 rfl)
theorem pd_28 : parseMethodDescriptor "([C)V" = some ⟨[(.array .char)], none⟩ := by decide +kernel
theorem w6 (hw : HW Z a0) : (Jvm.Cond.methodLink "com/example/rulr/rulr/policy/MembershipSelectionPinLaw" (13 : Nat) ⟨"java/lang/String", "<init>", "([C)V"⟩).before a0 Z = true := hw _ (wm 6 rfl)
theorem w7 (hw : HW Z a0) : (Jvm.Cond.instanceMethod ⟨"java/lang/String", "<init>", "([C)V"⟩).before a0 Z = true := hw _ (wm 7 rfl)
theorem w8 (hw : HW Z a0) : (Jvm.Cond.code ⟨"java/lang/String", "<init>", "([C)V"⟩ bc11 (2 : Nat) (Option.none : Option Jvm.ClassFile.FieldType)).before a0 Z = true := hw _ (wm 8 rfl)
theorem rm0 (l : Launch) (Z : State) (a0 : Array Value) (hw : HW Z a0) (ws : List Jvm.Cond) (h0 : Heap) (p1 p2 p3 p4 p5 p6 : Int32) (cz : Int32) (kB : ClassId) (fm : Value) (n0 : Nat) (hfb : Z.vm.findClass "[B" = some kB) (SC : sSC Z cz) (hcz : ¬ cz = 0) (SF : sSF Z fm) (rf : fm.isRef = true) (Sa : sSa Z) (Sh : sSh Z) (Sl : sSl Z) (O0 : Old Z n0 h0) : ConE l Z own_EL x code maxLocals ret ws room_1 32 4288 #[(.int p1), (.int p2), (.int p3), (.int p4), (.int p5), (.int p6)] h0 (fun v h L => v = some (.int 1) ∧ Fr n0 L) := by
  refine ConE.intro (plainFor_of_name pn_6) ?_
  intro p e s m below meth c s₁ X0 hx y hml hZ hown hnm hret hlk e0 hs0 hR0
  refine gs (fun _ k => castTop (ef_35 m p1 p2 p3 p4 p5 p6) k) ?_
  have hS0 := (State.WarmedH.refl s).since 0
  have hk0 : 0 ≤ h0.size := Nat.zero_le _
  have K0 := Keep.refl h0 []
  show Gf p e below _ s₁ m 0 #[vi p1, vi p2, vi p3, vi p4, vi p5, vi p6, vu, vu, vu, vu, vu, vu, vu, vu, vu] []
  refine gs (fun _ k => XS.iloadN X0.here hx rfl (hb y at_0) rfl (X0.ldcInt hx hown (mvT hZ (w0 hw)) (g := (mkF m 1 #[vi p1, vi p2, vi p3, vi p4, vi p5, vi p6, vu, vu, vu, vu, vu, vu, vu, vu, vu] [(.int p1)])) rfl (hb y at_1) _ (XS.iand X0.here hx rfl (hb y at_3) rfl (XS.i2c X0.here hx rfl (hb y at_4) rfl (XS.istore X0.here hx rfl (hb y at_5) rfl (l' := #[vi p1, vi p2, vi p3, vi p4, vi p5, vi p6, vi ((p1 &&& (65535 : Int32)).toUInt32.toUInt16.toUInt32.toInt32), vu, vu, vu, vu, vu, vu, vu, vu]) rfl (XS.iloadN X0.here hx rfl (hb y at_7) rfl k)))))) ?_
  show Gf p e below _ s₁ m 8 #[vi p1, vi p2, vi p3, vi p4, vi p5, vi p6, vi ((p1 &&& (65535 : Int32)).toUInt32.toUInt16.toUInt32.toInt32), vu, vu, vu, vu, vu, vu, vu, vu] [(.int p1)]
  refine gs (fun _ k => XS.bipush X0.here hx rfl (hb y at_8) (XS.iushr X0.here hx rfl (hb y at_10) rfl (XS.i2c X0.here hx rfl (hb y at_11) rfl (XS.istore X0.here hx rfl (hb y at_12) rfl (l' := #[vi p1, vi p2, vi p3, vi p4, vi p5, vi p6, vi ((p1 &&& (65535 : Int32)).toUInt32.toUInt16.toUInt32.toInt32), vi (((p1.toUInt32 >>> ((16 : Int32) &&& 31).toUInt32).toInt32).toUInt32.toUInt16.toUInt32.toInt32), vu, vu, vu, vu, vu, vu, vu]) rfl (XS.iloadN X0.here hx rfl (hb y at_14) rfl (X0.ldcInt hx hown (mvT hZ (w0 hw)) (g := (mkF m 15 #[vi p1, vi p2, vi p3, vi p4, vi p5, vi p6, vi ((p1 &&& (65535 : Int32)).toUInt32.toUInt16.toUInt32.toInt32), vi (((p1.toUInt32 >>> ((16 : Int32) &&& 31).toUInt32).toInt32).toUInt32.toUInt16.toUInt32.toInt32), vu, vu, vu, vu, vu, vu, vu] [(.int p2)])) rfl (hb y at_15) _ k)))))) ?_
  show Gf p e below _ s₁ m 17 #[vi p1, vi p2, vi p3, vi p4, vi p5, vi p6, vi ((p1 &&& (65535 : Int32)).toUInt32.toUInt16.toUInt32.toInt32), vi (((p1.toUInt32 >>> ((16 : Int32) &&& 31).toUInt32).toInt32).toUInt32.toUInt16.toUInt32.toInt32), vu, vu, vu, vu, vu, vu, vu] [(.int 65535), (.int p2)]
  refine gs (fun _ k => XS.iand X0.here hx rfl (hb y at_17) rfl (XS.i2c X0.here hx rfl (hb y at_18) rfl (XS.istore X0.here hx rfl (hb y at_19) rfl (l' := #[vi p1, vi p2, vi p3, vi p4, vi p5, vi p6, vi ((p1 &&& (65535 : Int32)).toUInt32.toUInt16.toUInt32.toInt32), vi (((p1.toUInt32 >>> ((16 : Int32) &&& 31).toUInt32).toInt32).toUInt32.toUInt16.toUInt32.toInt32), vi ((p2 &&& (65535 : Int32)).toUInt32.toUInt16.toUInt32.toInt32), vu, vu, vu, vu, vu, vu]) rfl (XS.iloadN X0.here hx rfl (hb y at_21) rfl (XS.bipush X0.here hx rfl (hb y at_22) (XS.iushr X0.here hx rfl (hb y at_24) rfl k)))))) ?_
  show Gf p e below _ s₁ m 25 #[vi p1, vi p2, vi p3, vi p4, vi p5, vi p6, vi ((p1 &&& (65535 : Int32)).toUInt32.toUInt16.toUInt32.toInt32), vi (((p1.toUInt32 >>> ((16 : Int32) &&& 31).toUInt32).toInt32).toUInt32.toUInt16.toUInt32.toInt32), vi ((p2 &&& (65535 : Int32)).toUInt32.toUInt16.toUInt32.toInt32), vu, vu, vu, vu, vu, vu] [(.int ((p2.toUInt32 >>> ((16 : Int32) &&& 31).toUInt32).toInt32))]
  refine gs (fun _ k => XS.i2c X0.here hx rfl (hb y at_25) rfl (XS.istore X0.here hx rfl (hb y at_26) rfl (l' := #[vi p1, vi p2, vi p3, vi p4, vi p5, vi p6, vi ((p1 &&& (65535 : Int32)).toUInt32.toUInt16.toUInt32.toInt32), vi (((p1.toUInt32 >>> ((16 : Int32) &&& 31).toUInt32).toInt32).toUInt32.toUInt16.toUInt32.toInt32), vi ((p2 &&& (65535 : Int32)).toUInt32.toUInt16.toUInt32.toInt32), vi (((p2.toUInt32 >>> ((16 : Int32) &&& 31).toUInt32).toInt32).toUInt32.toUInt16.toUInt32.toInt32), vu, vu, vu, vu, vu]) rfl (XS.iloadN X0.here hx rfl (hb y at_28) rfl (X0.ldcInt hx hown (mvT hZ (w1 hw)) (g := (mkF m 29 #[vi p1, vi p2, vi p3, vi p4, vi p5, vi p6, vi ((p1 &&& (65535 : Int32)).toUInt32.toUInt16.toUInt32.toInt32), vi (((p1.toUInt32 >>> ((16 : Int32) &&& 31).toUInt32).toInt32).toUInt32.toUInt16.toUInt32.toInt32), vi ((p2 &&& (65535 : Int32)).toUInt32.toUInt16.toUInt32.toInt32), vi (((p2.toUInt32 >>> ((16 : Int32) &&& 31).toUInt32).toInt32).toUInt32.toUInt16.toUInt32.toInt32), vu, vu, vu, vu, vu] [(.int p3)])) rfl (hb y at_29) _ k)))) ?_
  refine gs (fun _ k => XS.iand X0.here hx rfl (hb y at_31) rfl (XS.iconst X0.here hx rfl (hb y at_32) k)) ?_
  show Gf p e below _ s₁ m 33 #[vi p1, vi p2, vi p3, vi p4, vi p5, vi p6, vi ((p1 &&& (65535 : Int32)).toUInt32.toUInt16.toUInt32.toInt32), vi (((p1.toUInt32 >>> ((16 : Int32) &&& 31).toUInt32).toInt32).toUInt32.toUInt16.toUInt32.toInt32), vi ((p2 &&& (65535 : Int32)).toUInt32.toUInt16.toUInt32.toInt32), vi (((p2.toUInt32 >>> ((16 : Int32) &&& 31).toUInt32).toInt32).toUInt32.toUInt16.toUInt32.toInt32), vu, vu, vu, vu, vu] [(.int 5), (.int (p3 &&& (2147483647 : Int32)))]
  refine gs (fun _ k => iremM X0 hx rfl (hb y at_33) rfl (by decide) (XS.istore X0.here hx rfl (hb y at_34) rfl (l' := #[vi p1, vi p2, vi p3, vi p4, vi p5, vi p6, vi ((p1 &&& (65535 : Int32)).toUInt32.toUInt16.toUInt32.toInt32), vi (((p1.toUInt32 >>> ((16 : Int32) &&& 31).toUInt32).toInt32).toUInt32.toUInt16.toUInt32.toInt32), vi ((p2 &&& (65535 : Int32)).toUInt32.toUInt16.toUInt32.toInt32), vi (((p2.toUInt32 >>> ((16 : Int32) &&& 31).toUInt32).toInt32).toUInt32.toUInt16.toUInt32.toInt32), vi ((p3 &&& (2147483647 : Int32)) % (5 : Int32)), vu, vu, vu, vu]) rfl k)) ?_
  show Gf p e below _ s₁ m 36 #[vi p1, vi p2, vi p3, vi p4, vi p5, vi p6, vi ((p1 &&& (65535 : Int32)).toUInt32.toUInt16.toUInt32.toInt32), vi (((p1.toUInt32 >>> ((16 : Int32) &&& 31).toUInt32).toInt32).toUInt32.toUInt16.toUInt32.toInt32), vi ((p2 &&& (65535 : Int32)).toUInt32.toUInt16.toUInt32.toInt32), vi (((p2.toUInt32 >>> ((16 : Int32) &&& 31).toUInt32).toInt32).toUInt32.toUInt16.toUInt32.toInt32), vi ((p3 &&& (2147483647 : Int32)) % (5 : Int32)), vu, vu, vu, vu] []
  suffices J36 : ∀ c0 c1 c2 c3 nn : Int32, rg c0 → rg c1 → rg c2 → rg c3 → (nn = (0 : Int32) ∨ nn = (1 : Int32) ∨ nn = (2 : Int32) ∨ nn = (3 : Int32) ∨ nn = (4 : Int32)) → Gl p e below (GdW s (fun v h L => v = some (.int 1) ∧ Fr n0 L) 32 4288) (s₁.setTop (mkF m 36 #[vi p1, vi p2, vi p3, vi p4, vi p5, vi p6, vi c0, vi c1, vi c2, vi c3, vi nn, vu, vu, vu, vu] [])) from J36 _ _ _ _ _ (own_nr _) (own_nr _) (own_nr _) (own_nr _) (own_rm5 p3)
  intro c0 c1 c2 c3 nn hr0 hr1 hr2 hr3 hn_
  rcases hn_ with rfl | rfl | rfl | rfl | rfl
  · refine Gl.of (fun _ kq_ => XS.iload X0.here hx rfl (hb y at_36) rfl kq_) ?_
    refine gs (fun _ k => XS.ifNo X0.here hx rfl (hb y at_38) rfl ((if0 _ _).trans (teq (by decide : (0 : Int32) = (0 : Int32))).2) k) ?_
    obtain ⟨b1, T1, h1, k1, t1, kb1, X1, e1, E1, hS1, hk1, hZ, hown, Ea1, Ca1, Va1, Ba1, -, -, rr1, Li1, sf1, st1⟩ := ldcCH X0 hx hZ hown (w133 hw) (own_str hw) e0 hS0 hk0 (own_el hw) (by decide) hR0.1 (vs := (own_emp.map (fun c => c.toInt8.toInt32)).map Value.int) (z := Int32.ofNat own_emp.length) ⟨by decide, rfl⟩ (by decide) (by decide) (g := (mkF m 41 #[vi p1, vi p2, vi p3, vi p4, vi p5, vi p6, vi c0, vi c1, vi c2, vi c3, vi 0, vu, vu, vu, vu] [])) rfl (hb y at_41) (n := 0) (by decide) (by decide) (by decide) (by decide)
    refine Gl.of st1 ?_
    have hR1 := hR0.trans rr1
    have SG1 : Strg Z h1 b1 t1 kb1 own_emp := ⟨Ea1, Va1, Ca1, Ba1, by decide, by decide⟩
    have O1 := O0.ext E1
    have K1 := K0.ext E1
    have Vz : Arv Z h1 t1 kb1 .byte (0 : Int32) [] (.int 0) := SG1.2.2.2.1
    show Gf p e below _ T1 m 43 #[vi p1, vi p2, vi p3, vi p4, vi p5, vi p6, vi c0, vi c1, vi c2, vi c3, vi 0, vu, vu, vu, vu] [(.ref b1)]
    refine gs (fun _ k => XS.astore X1.here hx rfl (hb y at_43) rfl rfl (l' := #[vi p1, vi p2, vi p3, vi p4, vi p5, vi p6, vi c0, vi c1, vi c2, vi c3, vi 0, vr b1, vu, vu, vu]) rfl (XS.goto X1.here hx rfl (pc0 := 45) (pc' := 173) rfl (hb y at_45) (by decide) (by decide) k)) ?_
    show Gf p e below _ T1 m 173 #[vi p1, vi p2, vi p3, vi p4, vi p5, vi p6, vi c0, vi c1, vi c2, vi c3, vi 0, vr b1, vu, vu, vu] []
    exact md00 l Z a0 hw (X1.mono (by decide) (by decide)) hx y hml hZ hown hnm hret hlk e1 hS1 hk1 hR1 (Fr.nil n0) SG1.1 SG1.2.1 SG1.2.2.1 Vz SC hcz SF rf Sa Sh Sl O1
  · refine Gl.of (fun _ kq_ => XS.iload X0.here hx rfl (hb y at_36) rfl kq_) ?_
    refine gs (fun _ k => XS.ifYes X0.here hx rfl (pc0 := 38) (pc' := 48) rfl (hb y at_38) rfl ((if0 _ _).trans (feq (by decide : ¬ ((1 : Int32) = (0 : Int32)))).2) (by decide) (by decide) (XS.iload X0.here hx rfl (hb y at_48) rfl (XS.iconst X0.here hx rfl (hb y at_50) k))) ?_
    show Gf p e below _ s₁ m 51 #[vi p1, vi p2, vi p3, vi p4, vi p5, vi p6, vi c0, vi c1, vi c2, vi c3, vi 1, vu, vu, vu, vu] [(.int 1), (.int 1)]
    refine gs (fun _ k => XS.icmpNo X0.here hx rfl (hb y at_51) rfl (teq (by decide : (1 : Int32) = (1 : Int32))).2 k) ?_
    obtain ⟨T2, h2, X2, e2, E2, A2, D2, -, st2⟩ := newO X0 hx hZ hown (w2 hw) (w3 hw) (w4 hw) e0 (g := (mkF m 54 #[vi p1, vi p2, vi p3, vi p4, vi p5, vi p6, vi c0, vi c1, vi c2, vi c3, vi 1, vu, vu, vu, vu] [])) rfl (hb y at_54) (by decide) (by decide)
    obtain ⟨b2, g2⟩ : ∃ z, z = h0.size := ⟨_, rfl⟩
    rw [← g2] at A2 D2 st2
    refine Gl.of st2 ?_
    have Gb2 : n0 ≤ b2 := Nat.le_trans (O0.1 ▸ O0.2.1) (Nat.le_of_eq g2.symm)
    have Jb2 : h0.size ≤ b2 := Nat.le_trans K0.1 (Nat.le_of_eq g2.symm)
    have O2 := O0.ext E2
    have K2 := K0.ext E2
    have hk2 := Nat.le_trans hk0 E2.1
    have F2_coder : Fld Z h2 b2 "java/lang/String" "coder" "B" (.int 0) := D2 (Or.inr (w29 hw)) (ty := .byte) (by decide)
    have F2_value : Fld Z h2 b2 "java/lang/String" "value" "[B" .null := D2 (Or.inr (w31 hw)) (ty := (.array .byte)) (by decide)
    show Gf p e below _ T2 m 57 #[vi p1, vi p2, vi p3, vi p4, vi p5, vi p6, vi c0, vi c1, vi c2, vi c3, vi 1, vu, vu, vu, vu] [(.ref b2)]
    refine gs (fun _ k => XS.dup X2.here hx rfl (hb y at_57) rfl rfl (XS.iconst X2.here hx rfl (hb y at_58) k)) ?_
    obtain ⟨T3, h3, k3, X3, e3, E3, A3, st3⟩ := newP (aty := .char) X2 hx hZ (w5 hw) e2 (g := (mkF m 59 #[vi p1, vi p2, vi p3, vi p4, vi p5, vi p6, vi c0, vi c1, vi c2, vi c3, vi 1, vu, vu, vu, vu] [(.int 1), (.ref b2), (.ref b2)])) rfl (hb y at_59) rfl (by decide) (cap := 1) (by decide) (by decide) (by decide) (by decide)
    obtain ⟨b3, g3⟩ : ∃ z, z = h2.size := ⟨_, rfl⟩
    rw [← g3] at A3 st3
    refine Gl.of st3 ?_
    have Gb3 : n0 ≤ b3 := Nat.le_trans (O2.1 ▸ O2.2.1) (Nat.le_of_eq g3.symm)
    have Jb3 : h0.size ≤ b3 := Nat.le_trans K2.1 (Nat.le_of_eq g3.symm)
    have ne_b2_b3 : b2 ≠ b3 := Nat.ne_of_lt (Nat.lt_of_lt_of_le A2.lt (Nat.le_of_eq g3.symm))
    have ec4 := A2.ext E3
    have fc5 := F2_coder.ext E3
    have fc6 := F2_value.ext E3
    have O3 := O2.ext E3
    have K3 := K2.ext E3
    have hk3 := Nat.le_trans hk2 E3.1
    have V3 : Arv Z h3 b3 k3 .char (1 : Int32) [(.int 0)] (.int 0) := (Arv.new A3 (by decide)).pad (pad_rep [] (.int 0) 1)
    show Gf p e below _ T3 m 61 #[vi p1, vi p2, vi p3, vi p4, vi p5, vi p6, vi c0, vi c1, vi c2, vi c3, vi 1, vu, vu, vu, vu] [(.ref b3), (.ref b2), (.ref b2)]
    refine gs (fun _ k => XS.dup X3.here hx rfl (hb y at_61) rfl rfl (XS.iconst X3.here hx rfl (hb y at_62) (XS.iload X3.here hx rfl (hb y at_63) rfl k))) ?_
    obtain ⟨zcl7, zAr7, zq7, zS7, zM7, zH7, zG7⟩ := id V3
    obtain ⟨T8, h8, X8, e8, W8, st8⟩ := stC X3 hx hZ e3 zAr7 (j := (0 : Int32)) (inb_of zS7 ⟨by decide, by decide⟩) (g := (mkF m 65 #[vi p1, vi p2, vi p3, vi p4, vi p5, vi p6, vi c0, vi c1, vi c2, vi c3, vi 1, vu, vu, vu, vu] [(.int c0), (.int 0), (.ref b3), (.ref b3), (.ref b2), (.ref b2)])) rfl rfl (hb y at_65)
    refine Gl.of st8 ?_
    have V8 : Arv Z h8 b3 k3 .char (1 : Int32) [(.int (nar .char c0))] (.int 0) := Arv.set zAr7 zq7 zS7 zM7 zH7 zG7 (fits_nar_char _) W8 0 rfl (Nat.le_of_ble_eq_true rfl)
    have ec9 := ec4.wr W8
    have fc10 := fc5.other W8 (Or.inl ne_b2_b3)
    have fc11 := fc6.other W8 (Or.inl ne_b2_b3)
    have N8 := Fr.snoc X8 (Fr.nil n0) Gb3
    have O8 := O3.wr W8 Gb3
    have K8 := K3.wr W8 (Or.inr Jb3)
    have hk8 := Nat.le_trans hk3 (Keep.of_wr W8).1
    show Gf p e below _ T8 m 66 #[vi p1, vi p2, vi p3, vi p4, vi p5, vi p6, vi c0, vi c1, vi c2, vi c3, vi 1, vu, vu, vu, vu] [(.ref b3), (.ref b2), (.ref b2)]
    have Vp12 : Arv Z h8 b3 k3 .char (1 : Int32) [.int c0] (.int 0) := by have q := V8; rw [own_nc hr0] at q; exact q
    refine Gl.callI X8 hx hZ (y := my10) rfl hown (w6 hw) (w7 hw) (w4 hw) (w8 hw) (desc_ne (by decide)) (rm := ro 5 2 3 84) (b := b2) (argsL := [(.ref b3)]) (rest := [(.ref b2)]) (rmJ1 hw b2 b3 k3 kB c0 cz n0 hfb ec9 fc11 fc10 Gb2 Vp12 ne_b2_b3.symm hr0 SC hcz Sa Sh Sl O8) 1 (by decide) (by decide) (by decide) (by decide) e8 hml.symm pd_28 rfl rfl (Nat.le_of_eq rfl) (hb y at_66) ?_
    intro v13 T13 L13 X13 hQ13
    obtain ⟨rfl, Nq13, Kq13, t13, Fv13, dj13⟩ := hQ13
    have N13 := Fr.app N8 Nq13
    have ec14 := ec9.keep Kq13
    have O13 := O8.keep Kq13 (allS Gb2 all0)
    have K13 := K8.trans Kq13 (by intro x hx'; cases List.mem_singleton.mp hx'; exact Or.inr Jb2)
    have hk13 := Nat.le_trans hk8 Kq13.1
    rcases dj13 with ⟨Fc13, Vs13, hl0⟩ | ⟨Fc13, Vs13⟩
    · show Gf p e below _ T13 m 69 #[vi p1, vi p2, vi p3, vi p4, vi p5, vi p6, vi c0, vi c1, vi c2, vi c3, vi 1, vu, vu, vu, vu] [(.ref b2)]
      refine gs (fun _ k => XS.astore X13.here hx rfl (hb y at_69) rfl rfl (l' := #[vi p1, vi p2, vi p3, vi p4, vi p5, vi p6, vi c0, vi c1, vi c2, vi c3, vi 1, vr b2, vu, vu, vu]) rfl (XS.goto X13.here hx rfl (pc0 := 71) (pc' := 173) rfl (hb y at_71) (by decide) (by decide) k)) ?_
      have hRk := hR0.trans (CHr.keep K13 (fun x hx => nomatch hx) hR0.1)
      show Gf p e below _ T13 m 173 #[vi p1, vi p2, vi p3, vi p4, vi p5, vi p6, vi c0, vi c1, vi c2, vi c3, vi 1, vr b2, vu, vu, vu] []
      exact md10 l Z a0 hw (X13.mono (by decide) (by decide)) hx y hml hZ hown hnm hret hlk rfl hS0 hk13 hRk N13 hfb ec14 Fv13 Fc13 Vs13 hr0 hl0 SC hcz SF rf Sa Sh Sl O13
    · show Gf p e below _ T13 m 69 #[vi p1, vi p2, vi p3, vi p4, vi p5, vi p6, vi c0, vi c1, vi c2, vi c3, vi 1, vu, vu, vu, vu] [(.ref b2)]
      refine gs (fun _ k => XS.astore X13.here hx rfl (hb y at_69) rfl rfl (l' := #[vi p1, vi p2, vi p3, vi p4, vi p5, vi p6, vi c0, vi c1, vi c2, vi c3, vi 1, vr b2, vu, vu, vu]) rfl (XS.goto X13.here hx rfl (pc0 := 71) (pc' := 173) rfl (hb y at_71) (by decide) (by decide) k)) ?_
      have hRk := hR0.trans (CHr.keep K13 (fun x hx => nomatch hx) hR0.1)
      show Gf p e below _ T13 m 173 #[vi p1, vi p2, vi p3, vi p4, vi p5, vi p6, vi c0, vi c1, vi c2, vi c3, vi 1, vr b2, vu, vu, vu] []
      exact md11 l Z a0 hw (X13.mono (by decide) (by decide)) hx y hml hZ hown hnm hret hlk rfl hS0 hk13 hRk N13 hfb ec14 Fv13 Fc13 Vs13 hr0 SC hcz SF rf Sa Sh Sl O13
  · refine Gl.of (fun _ kq_ => XS.iload X0.here hx rfl (hb y at_36) rfl kq_) ?_
    refine gs (fun _ k => XS.ifYes X0.here hx rfl (pc0 := 38) (pc' := 48) rfl (hb y at_38) rfl ((if0 _ _).trans (feq (by decide : ¬ ((2 : Int32) = (0 : Int32)))).2) (by decide) (by decide) (XS.iload X0.here hx rfl (hb y at_48) rfl (XS.iconst X0.here hx rfl (hb y at_50) k))) ?_
    show Gf p e below _ s₁ m 51 #[vi p1, vi p2, vi p3, vi p4, vi p5, vi p6, vi c0, vi c1, vi c2, vi c3, vi 2, vu, vu, vu, vu] [(.int 1), (.int 2)]
    refine gs (fun _ k => XS.icmpYes X0.here hx rfl (pc0 := 51) (pc' := 74) rfl (hb y at_51) rfl (feq (by decide : ¬ ((2 : Int32) = (1 : Int32)))).2 (by decide) (by decide) (XS.iload X0.here hx rfl (hb y at_74) rfl (XS.iconst X0.here hx rfl (hb y at_76) (XS.icmpNo X0.here hx rfl (hb y at_77) rfl (teq (by decide : (2 : Int32) = (2 : Int32))).2 k)))) ?_
    obtain ⟨T15, h15, X15, e15, E15, A15, D15, -, st15⟩ := newO X0 hx hZ hown (w2 hw) (w3 hw) (w4 hw) e0 (g := (mkF m 80 #[vi p1, vi p2, vi p3, vi p4, vi p5, vi p6, vi c0, vi c1, vi c2, vi c3, vi 2, vu, vu, vu, vu] [])) rfl (hb y at_80) (by decide) (by decide)
    obtain ⟨b15, g15⟩ : ∃ z, z = h0.size := ⟨_, rfl⟩
    rw [← g15] at A15 D15 st15
    refine Gl.of st15 ?_
    have Gb15 : n0 ≤ b15 := Nat.le_trans (O0.1 ▸ O0.2.1) (Nat.le_of_eq g15.symm)
    have Jb15 : h0.size ≤ b15 := Nat.le_trans K0.1 (Nat.le_of_eq g15.symm)
    have O15 := O0.ext E15
    have K15 := K0.ext E15
    have hk15 := Nat.le_trans hk0 E15.1
    have F15_coder : Fld Z h15 b15 "java/lang/String" "coder" "B" (.int 0) := D15 (Or.inr (w29 hw)) (ty := .byte) (by decide)
    have F15_value : Fld Z h15 b15 "java/lang/String" "value" "[B" .null := D15 (Or.inr (w31 hw)) (ty := (.array .byte)) (by decide)
    show Gf p e below _ T15 m 83 #[vi p1, vi p2, vi p3, vi p4, vi p5, vi p6, vi c0, vi c1, vi c2, vi c3, vi 2, vu, vu, vu, vu] [(.ref b15)]
    refine gs (fun _ k => XS.dup X15.here hx rfl (hb y at_83) rfl rfl (XS.iconst X15.here hx rfl (hb y at_84) k)) ?_
    obtain ⟨T16, h16, k16, X16, e16, E16, A16, st16⟩ := newP (aty := .char) X15 hx hZ (w5 hw) e15 (g := (mkF m 85 #[vi p1, vi p2, vi p3, vi p4, vi p5, vi p6, vi c0, vi c1, vi c2, vi c3, vi 2, vu, vu, vu, vu] [(.int 2), (.ref b15), (.ref b15)])) rfl (hb y at_85) rfl (by decide) (cap := 2) (by decide) (by decide) (by decide) (by decide)
    obtain ⟨b16, g16⟩ : ∃ z, z = h15.size := ⟨_, rfl⟩
    rw [← g16] at A16 st16
    refine Gl.of st16 ?_
    have Gb16 : n0 ≤ b16 := Nat.le_trans (O15.1 ▸ O15.2.1) (Nat.le_of_eq g16.symm)
    have Jb16 : h0.size ≤ b16 := Nat.le_trans K15.1 (Nat.le_of_eq g16.symm)
    have ne_b15_b16 : b15 ≠ b16 := Nat.ne_of_lt (Nat.lt_of_lt_of_le A15.lt (Nat.le_of_eq g16.symm))
    have ec17 := A15.ext E16
    have fc18 := F15_coder.ext E16
    have fc19 := F15_value.ext E16
    have O16 := O15.ext E16
    have K16 := K15.ext E16
    have hk16 := Nat.le_trans hk15 E16.1
    have V16 : Arv Z h16 b16 k16 .char (2 : Int32) [(.int 0), (.int 0)] (.int 0) := (Arv.new A16 (by decide)).pad (pad_rep [] (.int 0) 2)
    show Gf p e below _ T16 m 87 #[vi p1, vi p2, vi p3, vi p4, vi p5, vi p6, vi c0, vi c1, vi c2, vi c3, vi 2, vu, vu, vu, vu] [(.ref b16), (.ref b15), (.ref b15)]
    refine gs (fun _ k => XS.dup X16.here hx rfl (hb y at_87) rfl rfl (XS.iconst X16.here hx rfl (hb y at_88) (XS.iload X16.here hx rfl (hb y at_89) rfl k))) ?_
    obtain ⟨zcl20, zAr20, zq20, zS20, zM20, zH20, zG20⟩ := id V16
    obtain ⟨T21, h21, X21, e21, W21, st21⟩ := stC X16 hx hZ e16 zAr20 (j := (0 : Int32)) (inb_of zS20 ⟨by decide, by decide⟩) (g := (mkF m 91 #[vi p1, vi p2, vi p3, vi p4, vi p5, vi p6, vi c0, vi c1, vi c2, vi c3, vi 2, vu, vu, vu, vu] [(.int c0), (.int 0), (.ref b16), (.ref b16), (.ref b15), (.ref b15)])) rfl rfl (hb y at_91)
    refine Gl.of st21 ?_
    have V21 : Arv Z h21 b16 k16 .char (2 : Int32) [(.int (nar .char c0)), (.int 0)] (.int 0) := Arv.set zAr20 zq20 zS20 zM20 zH20 zG20 (fits_nar_char _) W21 0 rfl (Nat.le_of_ble_eq_true rfl)
    have ec22 := ec17.wr W21
    have fc23 := fc18.other W21 (Or.inl ne_b15_b16)
    have fc24 := fc19.other W21 (Or.inl ne_b15_b16)
    have N21 := Fr.snoc X21 (Fr.nil n0) Gb16
    have O21 := O16.wr W21 Gb16
    have K21 := K16.wr W21 (Or.inr Jb16)
    have hk21 := Nat.le_trans hk16 (Keep.of_wr W21).1
    show Gf p e below _ T21 m 92 #[vi p1, vi p2, vi p3, vi p4, vi p5, vi p6, vi c0, vi c1, vi c2, vi c3, vi 2, vu, vu, vu, vu] [(.ref b16), (.ref b15), (.ref b15)]
    refine gs (fun _ k => XS.dup X21.here hx rfl (hb y at_92) rfl rfl (XS.iconst X21.here hx rfl (hb y at_93) (XS.iload X21.here hx rfl (hb y at_94) rfl k))) ?_
    obtain ⟨zcl25, zAr25, zq25, zS25, zM25, zH25, zG25⟩ := id V21
    obtain ⟨T26, h26, X26, e26, W26, st26⟩ := stC X21 hx hZ e21 zAr25 (j := (1 : Int32)) (inb_of zS25 ⟨by decide, by decide⟩) (g := (mkF m 96 #[vi p1, vi p2, vi p3, vi p4, vi p5, vi p6, vi c0, vi c1, vi c2, vi c3, vi 2, vu, vu, vu, vu] [(.int c1), (.int 1), (.ref b16), (.ref b16), (.ref b15), (.ref b15)])) rfl rfl (hb y at_96)
    refine Gl.of st26 ?_
    have V26 : Arv Z h26 b16 k16 .char (2 : Int32) [(.int (nar .char c0)), (.int (nar .char c1))] (.int 0) := Arv.set zAr25 zq25 zS25 zM25 zH25 zG25 (fits_nar_char _) W26 1 rfl (Nat.le_of_ble_eq_true rfl)
    have ec27 := ec22.wr W26
    have fc28 := fc23.other W26 (Or.inl ne_b15_b16)
    have fc29 := fc24.other W26 (Or.inl ne_b15_b16)
    have N26 := Fr.snoc X26 N21 Gb16
    have O26 := O21.wr W26 Gb16
    have K26 := K21.wr W26 (Or.inr Jb16)
    have hk26 := Nat.le_trans hk21 (Keep.of_wr W26).1
    show Gf p e below _ T26 m 97 #[vi p1, vi p2, vi p3, vi p4, vi p5, vi p6, vi c0, vi c1, vi c2, vi c3, vi 2, vu, vu, vu, vu] [(.ref b16), (.ref b15), (.ref b15)]
    have Vp30 : Arv Z h26 b16 k16 .char (2 : Int32) [.int c0, .int c1] (.int 0) := by have q := V26; rw [own_nc hr0, own_nc hr1] at q; exact q
    refine Gl.callI X26 hx hZ (y := my10) rfl hown (w6 hw) (w7 hw) (w4 hw) (w8 hw) (desc_ne (by decide)) (rm := ro 5 2 6 84) (b := b15) (argsL := [(.ref b16)]) (rest := [(.ref b15)]) (rmJ2 hw b15 b16 k16 kB c0 c1 cz n0 hfb ec27 fc29 fc28 Gb15 Vp30 ne_b15_b16.symm hr0 hr1 SC hcz Sa Sh Sl O26) 1 (by decide) (by decide) (by decide) (by decide) e26 hml.symm pd_28 rfl rfl (Nat.le_of_eq rfl) (hb y at_97) ?_
    intro v31 T31 L31 X31 hQ31
    obtain ⟨rfl, Nq31, Kq31, t31, Fv31, dj31⟩ := hQ31
    have N31 := Fr.app N26 Nq31
    have ec32 := ec27.keep Kq31
    have O31 := O26.keep Kq31 (allS Gb15 all0)
    have K31 := K26.trans Kq31 (by intro x hx'; cases List.mem_singleton.mp hx'; exact Or.inr Jb15)
    have hk31 := Nat.le_trans hk26 Kq31.1
    rcases dj31 with ⟨Fc31, Vs31, hl0, hl1⟩ | ⟨Fc31, Vs31⟩
    · show Gf p e below _ T31 m 100 #[vi p1, vi p2, vi p3, vi p4, vi p5, vi p6, vi c0, vi c1, vi c2, vi c3, vi 2, vu, vu, vu, vu] [(.ref b15)]
      refine gs (fun _ k => XS.astore X31.here hx rfl (hb y at_100) rfl rfl (l' := #[vi p1, vi p2, vi p3, vi p4, vi p5, vi p6, vi c0, vi c1, vi c2, vi c3, vi 2, vr b15, vu, vu, vu]) rfl (XS.goto X31.here hx rfl (pc0 := 102) (pc' := 173) rfl (hb y at_102) (by decide) (by decide) k)) ?_
      have hRk := hR0.trans (CHr.keep K31 (fun x hx => nomatch hx) hR0.1)
      show Gf p e below _ T31 m 173 #[vi p1, vi p2, vi p3, vi p4, vi p5, vi p6, vi c0, vi c1, vi c2, vi c3, vi 2, vr b15, vu, vu, vu] []
      exact md20 l Z a0 hw (X31.mono (by decide) (by decide)) hx y hml hZ hown hnm hret hlk rfl hS0 hk31 hRk N31 hfb ec32 Fv31 Fc31 Vs31 hr0 hr1 hl0 hl1 SC hcz SF rf Sa Sh Sl O31
    · show Gf p e below _ T31 m 100 #[vi p1, vi p2, vi p3, vi p4, vi p5, vi p6, vi c0, vi c1, vi c2, vi c3, vi 2, vu, vu, vu, vu] [(.ref b15)]
      refine gs (fun _ k => XS.astore X31.here hx rfl (hb y at_100) rfl rfl (l' := #[vi p1, vi p2, vi p3, vi p4, vi p5, vi p6, vi c0, vi c1, vi c2, vi c3, vi 2, vr b15, vu, vu, vu]) rfl (XS.goto X31.here hx rfl (pc0 := 102) (pc' := 173) rfl (hb y at_102) (by decide) (by decide) k)) ?_
      have hRk := hR0.trans (CHr.keep K31 (fun x hx => nomatch hx) hR0.1)
      show Gf p e below _ T31 m 173 #[vi p1, vi p2, vi p3, vi p4, vi p5, vi p6, vi c0, vi c1, vi c2, vi c3, vi 2, vr b15, vu, vu, vu] []
      exact md21 l Z a0 hw (X31.mono (by decide) (by decide)) hx y hml hZ hown hnm hret hlk rfl hS0 hk31 hRk N31 hfb ec32 Fv31 Fc31 Vs31 hr0 hr1 SC hcz SF rf Sa Sh Sl O31
  · refine Gl.of (fun _ kq_ => XS.iload X0.here hx rfl (hb y at_36) rfl kq_) ?_
    refine gs (fun _ k => XS.ifYes X0.here hx rfl (pc0 := 38) (pc' := 48) rfl (hb y at_38) rfl ((if0 _ _).trans (feq (by decide : ¬ ((3 : Int32) = (0 : Int32)))).2) (by decide) (by decide) (XS.iload X0.here hx rfl (hb y at_48) rfl (XS.iconst X0.here hx rfl (hb y at_50) k))) ?_
    show Gf p e below _ s₁ m 51 #[vi p1, vi p2, vi p3, vi p4, vi p5, vi p6, vi c0, vi c1, vi c2, vi c3, vi 3, vu, vu, vu, vu] [(.int 1), (.int 3)]
    refine gs (fun _ k => XS.icmpYes X0.here hx rfl (pc0 := 51) (pc' := 74) rfl (hb y at_51) rfl (feq (by decide : ¬ ((3 : Int32) = (1 : Int32)))).2 (by decide) (by decide) (XS.iload X0.here hx rfl (hb y at_74) rfl (XS.iconst X0.here hx rfl (hb y at_76) (XS.icmpYes X0.here hx rfl (pc0 := 77) (pc' := 105) rfl (hb y at_77) rfl (feq (by decide : ¬ ((3 : Int32) = (2 : Int32)))).2 (by decide) (by decide) (XS.iload X0.here hx rfl (hb y at_105) rfl (XS.iconst X0.here hx rfl (hb y at_107) k)))))) ?_
    show Gf p e below _ s₁ m 108 #[vi p1, vi p2, vi p3, vi p4, vi p5, vi p6, vi c0, vi c1, vi c2, vi c3, vi 3, vu, vu, vu, vu] [(.int 3), (.int 3)]
    refine gs (fun _ k => XS.icmpNo X0.here hx rfl (hb y at_108) rfl (teq (by decide : (3 : Int32) = (3 : Int32))).2 k) ?_
    obtain ⟨T33, h33, X33, e33, E33, A33, D33, -, st33⟩ := newO X0 hx hZ hown (w2 hw) (w3 hw) (w4 hw) e0 (g := (mkF m 111 #[vi p1, vi p2, vi p3, vi p4, vi p5, vi p6, vi c0, vi c1, vi c2, vi c3, vi 3, vu, vu, vu, vu] [])) rfl (hb y at_111) (by decide) (by decide)
    obtain ⟨b33, g33⟩ : ∃ z, z = h0.size := ⟨_, rfl⟩
    rw [← g33] at A33 D33 st33
    refine Gl.of st33 ?_
    have Gb33 : n0 ≤ b33 := Nat.le_trans (O0.1 ▸ O0.2.1) (Nat.le_of_eq g33.symm)
    have Jb33 : h0.size ≤ b33 := Nat.le_trans K0.1 (Nat.le_of_eq g33.symm)
    have O33 := O0.ext E33
    have K33 := K0.ext E33
    have hk33 := Nat.le_trans hk0 E33.1
    have F33_coder : Fld Z h33 b33 "java/lang/String" "coder" "B" (.int 0) := D33 (Or.inr (w29 hw)) (ty := .byte) (by decide)
    have F33_value : Fld Z h33 b33 "java/lang/String" "value" "[B" .null := D33 (Or.inr (w31 hw)) (ty := (.array .byte)) (by decide)
    show Gf p e below _ T33 m 114 #[vi p1, vi p2, vi p3, vi p4, vi p5, vi p6, vi c0, vi c1, vi c2, vi c3, vi 3, vu, vu, vu, vu] [(.ref b33)]
    refine gs (fun _ k => XS.dup X33.here hx rfl (hb y at_114) rfl rfl (XS.iconst X33.here hx rfl (hb y at_115) k)) ?_
    obtain ⟨T34, h34, k34, X34, e34, E34, A34, st34⟩ := newP (aty := .char) X33 hx hZ (w5 hw) e33 (g := (mkF m 116 #[vi p1, vi p2, vi p3, vi p4, vi p5, vi p6, vi c0, vi c1, vi c2, vi c3, vi 3, vu, vu, vu, vu] [(.int 3), (.ref b33), (.ref b33)])) rfl (hb y at_116) rfl (by decide) (cap := 3) (by decide) (by decide) (by decide) (by decide)
    obtain ⟨b34, g34⟩ : ∃ z, z = h33.size := ⟨_, rfl⟩
    rw [← g34] at A34 st34
    refine Gl.of st34 ?_
    have Gb34 : n0 ≤ b34 := Nat.le_trans (O33.1 ▸ O33.2.1) (Nat.le_of_eq g34.symm)
    have Jb34 : h0.size ≤ b34 := Nat.le_trans K33.1 (Nat.le_of_eq g34.symm)
    have ne_b33_b34 : b33 ≠ b34 := Nat.ne_of_lt (Nat.lt_of_lt_of_le A33.lt (Nat.le_of_eq g34.symm))
    have ec35 := A33.ext E34
    have fc36 := F33_coder.ext E34
    have fc37 := F33_value.ext E34
    have O34 := O33.ext E34
    have K34 := K33.ext E34
    have hk34 := Nat.le_trans hk33 E34.1
    have V34 : Arv Z h34 b34 k34 .char (3 : Int32) [(.int 0), (.int 0), (.int 0)] (.int 0) := (Arv.new A34 (by decide)).pad (pad_rep [] (.int 0) 3)
    show Gf p e below _ T34 m 118 #[vi p1, vi p2, vi p3, vi p4, vi p5, vi p6, vi c0, vi c1, vi c2, vi c3, vi 3, vu, vu, vu, vu] [(.ref b34), (.ref b33), (.ref b33)]
    refine gs (fun _ k => XS.dup X34.here hx rfl (hb y at_118) rfl rfl (XS.iconst X34.here hx rfl (hb y at_119) (XS.iload X34.here hx rfl (hb y at_120) rfl k))) ?_
    obtain ⟨zcl38, zAr38, zq38, zS38, zM38, zH38, zG38⟩ := id V34
    obtain ⟨T39, h39, X39, e39, W39, st39⟩ := stC X34 hx hZ e34 zAr38 (j := (0 : Int32)) (inb_of zS38 ⟨by decide, by decide⟩) (g := (mkF m 122 #[vi p1, vi p2, vi p3, vi p4, vi p5, vi p6, vi c0, vi c1, vi c2, vi c3, vi 3, vu, vu, vu, vu] [(.int c0), (.int 0), (.ref b34), (.ref b34), (.ref b33), (.ref b33)])) rfl rfl (hb y at_122)
    refine Gl.of st39 ?_
    have V39 : Arv Z h39 b34 k34 .char (3 : Int32) [(.int (nar .char c0)), (.int 0), (.int 0)] (.int 0) := Arv.set zAr38 zq38 zS38 zM38 zH38 zG38 (fits_nar_char _) W39 0 rfl (Nat.le_of_ble_eq_true rfl)
    have ec40 := ec35.wr W39
    have fc41 := fc36.other W39 (Or.inl ne_b33_b34)
    have fc42 := fc37.other W39 (Or.inl ne_b33_b34)
    have N39 := Fr.snoc X39 (Fr.nil n0) Gb34
    have O39 := O34.wr W39 Gb34
    have K39 := K34.wr W39 (Or.inr Jb34)
    have hk39 := Nat.le_trans hk34 (Keep.of_wr W39).1
    show Gf p e below _ T39 m 123 #[vi p1, vi p2, vi p3, vi p4, vi p5, vi p6, vi c0, vi c1, vi c2, vi c3, vi 3, vu, vu, vu, vu] [(.ref b34), (.ref b33), (.ref b33)]
    refine gs (fun _ k => XS.dup X39.here hx rfl (hb y at_123) rfl rfl (XS.iconst X39.here hx rfl (hb y at_124) (XS.iload X39.here hx rfl (hb y at_125) rfl k))) ?_
    obtain ⟨zcl43, zAr43, zq43, zS43, zM43, zH43, zG43⟩ := id V39
    obtain ⟨T44, h44, X44, e44, W44, st44⟩ := stC X39 hx hZ e39 zAr43 (j := (1 : Int32)) (inb_of zS43 ⟨by decide, by decide⟩) (g := (mkF m 127 #[vi p1, vi p2, vi p3, vi p4, vi p5, vi p6, vi c0, vi c1, vi c2, vi c3, vi 3, vu, vu, vu, vu] [(.int c1), (.int 1), (.ref b34), (.ref b34), (.ref b33), (.ref b33)])) rfl rfl (hb y at_127)
    refine Gl.of st44 ?_
    have V44 : Arv Z h44 b34 k34 .char (3 : Int32) [(.int (nar .char c0)), (.int (nar .char c1)), (.int 0)] (.int 0) := Arv.set zAr43 zq43 zS43 zM43 zH43 zG43 (fits_nar_char _) W44 1 rfl (Nat.le_of_ble_eq_true rfl)
    have ec45 := ec40.wr W44
    have fc46 := fc41.other W44 (Or.inl ne_b33_b34)
    have fc47 := fc42.other W44 (Or.inl ne_b33_b34)
    have N44 := Fr.snoc X44 N39 Gb34
    have O44 := O39.wr W44 Gb34
    have K44 := K39.wr W44 (Or.inr Jb34)
    have hk44 := Nat.le_trans hk39 (Keep.of_wr W44).1
    show Gf p e below _ T44 m 128 #[vi p1, vi p2, vi p3, vi p4, vi p5, vi p6, vi c0, vi c1, vi c2, vi c3, vi 3, vu, vu, vu, vu] [(.ref b34), (.ref b33), (.ref b33)]
    refine gs (fun _ k => XS.dup X44.here hx rfl (hb y at_128) rfl rfl (XS.iconst X44.here hx rfl (hb y at_129) (XS.iload X44.here hx rfl (hb y at_130) rfl k))) ?_
    obtain ⟨zcl48, zAr48, zq48, zS48, zM48, zH48, zG48⟩ := id V44
    obtain ⟨T49, h49, X49, e49, W49, st49⟩ := stC X44 hx hZ e44 zAr48 (j := (2 : Int32)) (inb_of zS48 ⟨by decide, by decide⟩) (g := (mkF m 132 #[vi p1, vi p2, vi p3, vi p4, vi p5, vi p6, vi c0, vi c1, vi c2, vi c3, vi 3, vu, vu, vu, vu] [(.int c2), (.int 2), (.ref b34), (.ref b34), (.ref b33), (.ref b33)])) rfl rfl (hb y at_132)
    refine Gl.of st49 ?_
    have V49 : Arv Z h49 b34 k34 .char (3 : Int32) [(.int (nar .char c0)), (.int (nar .char c1)), (.int (nar .char c2))] (.int 0) := Arv.set zAr48 zq48 zS48 zM48 zH48 zG48 (fits_nar_char _) W49 2 rfl (Nat.le_of_ble_eq_true rfl)
    have ec50 := ec45.wr W49
    have fc51 := fc46.other W49 (Or.inl ne_b33_b34)
    have fc52 := fc47.other W49 (Or.inl ne_b33_b34)
    have N49 := Fr.snoc X49 N44 Gb34
    have O49 := O44.wr W49 Gb34
    have K49 := K44.wr W49 (Or.inr Jb34)
    have hk49 := Nat.le_trans hk44 (Keep.of_wr W49).1
    show Gf p e below _ T49 m 133 #[vi p1, vi p2, vi p3, vi p4, vi p5, vi p6, vi c0, vi c1, vi c2, vi c3, vi 3, vu, vu, vu, vu] [(.ref b34), (.ref b33), (.ref b33)]
    have Vp53 : Arv Z h49 b34 k34 .char (3 : Int32) [.int c0, .int c1, .int c2] (.int 0) := by have q := V49; rw [own_nc hr0, own_nc hr1, own_nc hr2] at q; exact q
    refine Gl.callI X49 hx hZ (y := my10) rfl hown (w6 hw) (w7 hw) (w4 hw) (w8 hw) (desc_ne (by decide)) (rm := ro 5 2 9 84) (b := b33) (argsL := [(.ref b34)]) (rest := [(.ref b33)]) (rmJ3 hw b33 b34 k34 kB c0 c1 c2 cz n0 hfb ec50 fc52 fc51 Gb33 Vp53 ne_b33_b34.symm hr0 hr1 hr2 SC hcz Sa Sh Sl O49) 1 (by decide) (by decide) (by decide) (by decide) e49 hml.symm pd_28 rfl rfl (Nat.le_of_eq rfl) (hb y at_133) ?_
    intro v54 T54 L54 X54 hQ54
    obtain ⟨rfl, Nq54, Kq54, t54, Fv54, dj54⟩ := hQ54
    have N54 := Fr.app N49 Nq54
    have ec55 := ec50.keep Kq54
    have O54 := O49.keep Kq54 (allS Gb33 all0)
    have K54 := K49.trans Kq54 (by intro x hx'; cases List.mem_singleton.mp hx'; exact Or.inr Jb33)
    have hk54 := Nat.le_trans hk49 Kq54.1
    rcases dj54 with ⟨Fc54, Vs54, hl0, hl1, hl2⟩ | ⟨Fc54, Vs54⟩
    · show Gf p e below _ T54 m 136 #[vi p1, vi p2, vi p3, vi p4, vi p5, vi p6, vi c0, vi c1, vi c2, vi c3, vi 3, vu, vu, vu, vu] [(.ref b33)]
      refine gs (fun _ k => XS.astore X54.here hx rfl (hb y at_136) rfl rfl (l' := #[vi p1, vi p2, vi p3, vi p4, vi p5, vi p6, vi c0, vi c1, vi c2, vi c3, vi 3, vr b33, vu, vu, vu]) rfl (XS.goto X54.here hx rfl (pc0 := 138) (pc' := 173) rfl (hb y at_138) (by decide) (by decide) k)) ?_
      have hRk := hR0.trans (CHr.keep K54 (fun x hx => nomatch hx) hR0.1)
      show Gf p e below _ T54 m 173 #[vi p1, vi p2, vi p3, vi p4, vi p5, vi p6, vi c0, vi c1, vi c2, vi c3, vi 3, vr b33, vu, vu, vu] []
      exact md30 l Z a0 hw (X54.mono (by decide) (by decide)) hx y hml hZ hown hnm hret hlk rfl hS0 hk54 hRk N54 hfb ec55 Fv54 Fc54 Vs54 hr0 hr1 hr2 hl0 hl1 hl2 SC hcz SF rf Sa Sh Sl O54
    · show Gf p e below _ T54 m 136 #[vi p1, vi p2, vi p3, vi p4, vi p5, vi p6, vi c0, vi c1, vi c2, vi c3, vi 3, vu, vu, vu, vu] [(.ref b33)]
      refine gs (fun _ k => XS.astore X54.here hx rfl (hb y at_136) rfl rfl (l' := #[vi p1, vi p2, vi p3, vi p4, vi p5, vi p6, vi c0, vi c1, vi c2, vi c3, vi 3, vr b33, vu, vu, vu]) rfl (XS.goto X54.here hx rfl (pc0 := 138) (pc' := 173) rfl (hb y at_138) (by decide) (by decide) k)) ?_
      have hRk := hR0.trans (CHr.keep K54 (fun x hx => nomatch hx) hR0.1)
      show Gf p e below _ T54 m 173 #[vi p1, vi p2, vi p3, vi p4, vi p5, vi p6, vi c0, vi c1, vi c2, vi c3, vi 3, vr b33, vu, vu, vu] []
      exact md31 l Z a0 hw (X54.mono (by decide) (by decide)) hx y hml hZ hown hnm hret hlk rfl hS0 hk54 hRk N54 hfb ec55 Fv54 Fc54 Vs54 hr0 hr1 hr2 SC hcz SF rf Sa Sh Sl O54
  · refine Gl.of (fun _ kq_ => XS.iload X0.here hx rfl (hb y at_36) rfl kq_) ?_
    refine gs (fun _ k => XS.ifYes X0.here hx rfl (pc0 := 38) (pc' := 48) rfl (hb y at_38) rfl ((if0 _ _).trans (feq (by decide : ¬ ((4 : Int32) = (0 : Int32)))).2) (by decide) (by decide) (XS.iload X0.here hx rfl (hb y at_48) rfl (XS.iconst X0.here hx rfl (hb y at_50) k))) ?_
    show Gf p e below _ s₁ m 51 #[vi p1, vi p2, vi p3, vi p4, vi p5, vi p6, vi c0, vi c1, vi c2, vi c3, vi 4, vu, vu, vu, vu] [(.int 1), (.int 4)]
    refine gs (fun _ k => XS.icmpYes X0.here hx rfl (pc0 := 51) (pc' := 74) rfl (hb y at_51) rfl (feq (by decide : ¬ ((4 : Int32) = (1 : Int32)))).2 (by decide) (by decide) (XS.iload X0.here hx rfl (hb y at_74) rfl (XS.iconst X0.here hx rfl (hb y at_76) (XS.icmpYes X0.here hx rfl (pc0 := 77) (pc' := 105) rfl (hb y at_77) rfl (feq (by decide : ¬ ((4 : Int32) = (2 : Int32)))).2 (by decide) (by decide) (XS.iload X0.here hx rfl (hb y at_105) rfl (XS.iconst X0.here hx rfl (hb y at_107) k)))))) ?_
    show Gf p e below _ s₁ m 108 #[vi p1, vi p2, vi p3, vi p4, vi p5, vi p6, vi c0, vi c1, vi c2, vi c3, vi 4, vu, vu, vu, vu] [(.int 3), (.int 4)]
    refine gs (fun _ k => XS.icmpYes X0.here hx rfl (pc0 := 108) (pc' := 141) rfl (hb y at_108) rfl (feq (by decide : ¬ ((4 : Int32) = (3 : Int32)))).2 (by decide) (by decide) k) ?_
    obtain ⟨T56, h56, X56, e56, E56, A56, D56, -, st56⟩ := newO X0 hx hZ hown (w2 hw) (w3 hw) (w4 hw) e0 (g := (mkF m 141 #[vi p1, vi p2, vi p3, vi p4, vi p5, vi p6, vi c0, vi c1, vi c2, vi c3, vi 4, vu, vu, vu, vu] [])) rfl (hb y at_141) (by decide) (by decide)
    obtain ⟨b56, g56⟩ : ∃ z, z = h0.size := ⟨_, rfl⟩
    rw [← g56] at A56 D56 st56
    refine Gl.of st56 ?_
    have Gb56 : n0 ≤ b56 := Nat.le_trans (O0.1 ▸ O0.2.1) (Nat.le_of_eq g56.symm)
    have Jb56 : h0.size ≤ b56 := Nat.le_trans K0.1 (Nat.le_of_eq g56.symm)
    have O56 := O0.ext E56
    have K56 := K0.ext E56
    have hk56 := Nat.le_trans hk0 E56.1
    have F56_coder : Fld Z h56 b56 "java/lang/String" "coder" "B" (.int 0) := D56 (Or.inr (w29 hw)) (ty := .byte) (by decide)
    have F56_value : Fld Z h56 b56 "java/lang/String" "value" "[B" .null := D56 (Or.inr (w31 hw)) (ty := (.array .byte)) (by decide)
    show Gf p e below _ T56 m 144 #[vi p1, vi p2, vi p3, vi p4, vi p5, vi p6, vi c0, vi c1, vi c2, vi c3, vi 4, vu, vu, vu, vu] [(.ref b56)]
    refine gs (fun _ k => XS.dup X56.here hx rfl (hb y at_144) rfl rfl (XS.iconst X56.here hx rfl (hb y at_145) k)) ?_
    obtain ⟨T57, h57, k57, X57, e57, E57, A57, st57⟩ := newP (aty := .char) X56 hx hZ (w5 hw) e56 (g := (mkF m 146 #[vi p1, vi p2, vi p3, vi p4, vi p5, vi p6, vi c0, vi c1, vi c2, vi c3, vi 4, vu, vu, vu, vu] [(.int 4), (.ref b56), (.ref b56)])) rfl (hb y at_146) rfl (by decide) (cap := 4) (by decide) (by decide) (by decide) (by decide)
    obtain ⟨b57, g57⟩ : ∃ z, z = h56.size := ⟨_, rfl⟩
    rw [← g57] at A57 st57
    refine Gl.of st57 ?_
    have Gb57 : n0 ≤ b57 := Nat.le_trans (O56.1 ▸ O56.2.1) (Nat.le_of_eq g57.symm)
    have Jb57 : h0.size ≤ b57 := Nat.le_trans K56.1 (Nat.le_of_eq g57.symm)
    have ne_b56_b57 : b56 ≠ b57 := Nat.ne_of_lt (Nat.lt_of_lt_of_le A56.lt (Nat.le_of_eq g57.symm))
    have ec58 := A56.ext E57
    have fc59 := F56_coder.ext E57
    have fc60 := F56_value.ext E57
    have O57 := O56.ext E57
    have K57 := K56.ext E57
    have hk57 := Nat.le_trans hk56 E57.1
    have V57 : Arv Z h57 b57 k57 .char (4 : Int32) [(.int 0), (.int 0), (.int 0), (.int 0)] (.int 0) := (Arv.new A57 (by decide)).pad (pad_rep [] (.int 0) 4)
    show Gf p e below _ T57 m 148 #[vi p1, vi p2, vi p3, vi p4, vi p5, vi p6, vi c0, vi c1, vi c2, vi c3, vi 4, vu, vu, vu, vu] [(.ref b57), (.ref b56), (.ref b56)]
    refine gs (fun _ k => XS.dup X57.here hx rfl (hb y at_148) rfl rfl (XS.iconst X57.here hx rfl (hb y at_149) (XS.iload X57.here hx rfl (hb y at_150) rfl k))) ?_
    obtain ⟨zcl61, zAr61, zq61, zS61, zM61, zH61, zG61⟩ := id V57
    obtain ⟨T62, h62, X62, e62, W62, st62⟩ := stC X57 hx hZ e57 zAr61 (j := (0 : Int32)) (inb_of zS61 ⟨by decide, by decide⟩) (g := (mkF m 152 #[vi p1, vi p2, vi p3, vi p4, vi p5, vi p6, vi c0, vi c1, vi c2, vi c3, vi 4, vu, vu, vu, vu] [(.int c0), (.int 0), (.ref b57), (.ref b57), (.ref b56), (.ref b56)])) rfl rfl (hb y at_152)
    refine Gl.of st62 ?_
    have V62 : Arv Z h62 b57 k57 .char (4 : Int32) [(.int (nar .char c0)), (.int 0), (.int 0), (.int 0)] (.int 0) := Arv.set zAr61 zq61 zS61 zM61 zH61 zG61 (fits_nar_char _) W62 0 rfl (Nat.le_of_ble_eq_true rfl)
    have ec63 := ec58.wr W62
    have fc64 := fc59.other W62 (Or.inl ne_b56_b57)
    have fc65 := fc60.other W62 (Or.inl ne_b56_b57)
    have N62 := Fr.snoc X62 (Fr.nil n0) Gb57
    have O62 := O57.wr W62 Gb57
    have K62 := K57.wr W62 (Or.inr Jb57)
    have hk62 := Nat.le_trans hk57 (Keep.of_wr W62).1
    show Gf p e below _ T62 m 153 #[vi p1, vi p2, vi p3, vi p4, vi p5, vi p6, vi c0, vi c1, vi c2, vi c3, vi 4, vu, vu, vu, vu] [(.ref b57), (.ref b56), (.ref b56)]
    refine gs (fun _ k => XS.dup X62.here hx rfl (hb y at_153) rfl rfl (XS.iconst X62.here hx rfl (hb y at_154) (XS.iload X62.here hx rfl (hb y at_155) rfl k))) ?_
    obtain ⟨zcl66, zAr66, zq66, zS66, zM66, zH66, zG66⟩ := id V62
    obtain ⟨T67, h67, X67, e67, W67, st67⟩ := stC X62 hx hZ e62 zAr66 (j := (1 : Int32)) (inb_of zS66 ⟨by decide, by decide⟩) (g := (mkF m 157 #[vi p1, vi p2, vi p3, vi p4, vi p5, vi p6, vi c0, vi c1, vi c2, vi c3, vi 4, vu, vu, vu, vu] [(.int c1), (.int 1), (.ref b57), (.ref b57), (.ref b56), (.ref b56)])) rfl rfl (hb y at_157)
    refine Gl.of st67 ?_
    have V67 : Arv Z h67 b57 k57 .char (4 : Int32) [(.int (nar .char c0)), (.int (nar .char c1)), (.int 0), (.int 0)] (.int 0) := Arv.set zAr66 zq66 zS66 zM66 zH66 zG66 (fits_nar_char _) W67 1 rfl (Nat.le_of_ble_eq_true rfl)
    have ec68 := ec63.wr W67
    have fc69 := fc64.other W67 (Or.inl ne_b56_b57)
    have fc70 := fc65.other W67 (Or.inl ne_b56_b57)
    have N67 := Fr.snoc X67 N62 Gb57
    have O67 := O62.wr W67 Gb57
    have K67 := K62.wr W67 (Or.inr Jb57)
    have hk67 := Nat.le_trans hk62 (Keep.of_wr W67).1
    show Gf p e below _ T67 m 158 #[vi p1, vi p2, vi p3, vi p4, vi p5, vi p6, vi c0, vi c1, vi c2, vi c3, vi 4, vu, vu, vu, vu] [(.ref b57), (.ref b56), (.ref b56)]
    refine gs (fun _ k => XS.dup X67.here hx rfl (hb y at_158) rfl rfl (XS.iconst X67.here hx rfl (hb y at_159) (XS.iload X67.here hx rfl (hb y at_160) rfl k))) ?_
    obtain ⟨zcl71, zAr71, zq71, zS71, zM71, zH71, zG71⟩ := id V67
    obtain ⟨T72, h72, X72, e72, W72, st72⟩ := stC X67 hx hZ e67 zAr71 (j := (2 : Int32)) (inb_of zS71 ⟨by decide, by decide⟩) (g := (mkF m 162 #[vi p1, vi p2, vi p3, vi p4, vi p5, vi p6, vi c0, vi c1, vi c2, vi c3, vi 4, vu, vu, vu, vu] [(.int c2), (.int 2), (.ref b57), (.ref b57), (.ref b56), (.ref b56)])) rfl rfl (hb y at_162)
    refine Gl.of st72 ?_
    have V72 : Arv Z h72 b57 k57 .char (4 : Int32) [(.int (nar .char c0)), (.int (nar .char c1)), (.int (nar .char c2)), (.int 0)] (.int 0) := Arv.set zAr71 zq71 zS71 zM71 zH71 zG71 (fits_nar_char _) W72 2 rfl (Nat.le_of_ble_eq_true rfl)
    have ec73 := ec68.wr W72
    have fc74 := fc69.other W72 (Or.inl ne_b56_b57)
    have fc75 := fc70.other W72 (Or.inl ne_b56_b57)
    have N72 := Fr.snoc X72 N67 Gb57
    have O72 := O67.wr W72 Gb57
    have K72 := K67.wr W72 (Or.inr Jb57)
    have hk72 := Nat.le_trans hk67 (Keep.of_wr W72).1
    show Gf p e below _ T72 m 163 #[vi p1, vi p2, vi p3, vi p4, vi p5, vi p6, vi c0, vi c1, vi c2, vi c3, vi 4, vu, vu, vu, vu] [(.ref b57), (.ref b56), (.ref b56)]
    refine gs (fun _ k => XS.dup X72.here hx rfl (hb y at_163) rfl rfl (XS.iconst X72.here hx rfl (hb y at_164) (XS.iload X72.here hx rfl (hb y at_165) rfl k))) ?_
    obtain ⟨zcl76, zAr76, zq76, zS76, zM76, zH76, zG76⟩ := id V72
    obtain ⟨T77, h77, X77, e77, W77, st77⟩ := stC X72 hx hZ e72 zAr76 (j := (3 : Int32)) (inb_of zS76 ⟨by decide, by decide⟩) (g := (mkF m 167 #[vi p1, vi p2, vi p3, vi p4, vi p5, vi p6, vi c0, vi c1, vi c2, vi c3, vi 4, vu, vu, vu, vu] [(.int c3), (.int 3), (.ref b57), (.ref b57), (.ref b56), (.ref b56)])) rfl rfl (hb y at_167)
    refine Gl.of st77 ?_
    have V77 : Arv Z h77 b57 k57 .char (4 : Int32) [(.int (nar .char c0)), (.int (nar .char c1)), (.int (nar .char c2)), (.int (nar .char c3))] (.int 0) := Arv.set zAr76 zq76 zS76 zM76 zH76 zG76 (fits_nar_char _) W77 3 rfl (Nat.le_of_ble_eq_true rfl)
    have ec78 := ec73.wr W77
    have fc79 := fc74.other W77 (Or.inl ne_b56_b57)
    have fc80 := fc75.other W77 (Or.inl ne_b56_b57)
    have N77 := Fr.snoc X77 N72 Gb57
    have O77 := O72.wr W77 Gb57
    have K77 := K72.wr W77 (Or.inr Jb57)
    have hk77 := Nat.le_trans hk72 (Keep.of_wr W77).1
    show Gf p e below _ T77 m 168 #[vi p1, vi p2, vi p3, vi p4, vi p5, vi p6, vi c0, vi c1, vi c2, vi c3, vi 4, vu, vu, vu, vu] [(.ref b57), (.ref b56), (.ref b56)]
    have Vp81 : Arv Z h77 b57 k57 .char (4 : Int32) [.int c0, .int c1, .int c2, .int c3] (.int 0) := by have q := V77; rw [own_nc hr0, own_nc hr1, own_nc hr2, own_nc hr3] at q; exact q
    refine Gl.callI X77 hx hZ (y := my10) rfl hown (w6 hw) (w7 hw) (w4 hw) (w8 hw) (desc_ne (by decide)) (rm := ro 5 2 12 84) (b := b56) (argsL := [(.ref b57)]) (rest := [(.ref b56)]) (rmJ4 hw b56 b57 k57 kB c0 c1 c2 c3 cz n0 hfb ec78 fc80 fc79 Gb56 Vp81 ne_b56_b57.symm hr0 hr1 hr2 hr3 SC hcz Sa Sh Sl O77) 1 (by decide) (by decide) (by decide) (by decide) e77 hml.symm pd_28 rfl rfl (Nat.le_of_eq rfl) (hb y at_168) ?_
    intro v82 T82 L82 X82 hQ82
    obtain ⟨rfl, Nq82, Kq82, t82, Fv82, dj82⟩ := hQ82
    have N82 := Fr.app N77 Nq82
    have ec83 := ec78.keep Kq82
    have O82 := O77.keep Kq82 (allS Gb56 all0)
    have K82 := K77.trans Kq82 (by intro x hx'; cases List.mem_singleton.mp hx'; exact Or.inr Jb56)
    have hk82 := Nat.le_trans hk77 Kq82.1
    rcases dj82 with ⟨Fc82, Vs82, hl0, hl1, hl2, hl3⟩ | ⟨Fc82, Vs82⟩
    · show Gf p e below _ T82 m 171 #[vi p1, vi p2, vi p3, vi p4, vi p5, vi p6, vi c0, vi c1, vi c2, vi c3, vi 4, vu, vu, vu, vu] [(.ref b56)]
      refine gs (fun _ k => XS.astore X82.here hx rfl (hb y at_171) rfl rfl (l' := #[vi p1, vi p2, vi p3, vi p4, vi p5, vi p6, vi c0, vi c1, vi c2, vi c3, vi 4, vr b56, vu, vu, vu]) rfl k) ?_
      have hRk := hR0.trans (CHr.keep K82 (fun x hx => nomatch hx) hR0.1)
      show Gf p e below _ T82 m 173 #[vi p1, vi p2, vi p3, vi p4, vi p5, vi p6, vi c0, vi c1, vi c2, vi c3, vi 4, vr b56, vu, vu, vu] []
      exact md40 l Z a0 hw (X82.mono (by decide) (by decide)) hx y hml hZ hown hnm hret hlk rfl hS0 hk82 hRk N82 hfb ec83 Fv82 Fc82 Vs82 hr0 hr1 hr2 hr3 hl0 hl1 hl2 hl3 SC hcz SF rf Sa Sh Sl O82
    · show Gf p e below _ T82 m 171 #[vi p1, vi p2, vi p3, vi p4, vi p5, vi p6, vi c0, vi c1, vi c2, vi c3, vi 4, vu, vu, vu, vu] [(.ref b56)]
      refine gs (fun _ k => XS.astore X82.here hx rfl (hb y at_171) rfl rfl (l' := #[vi p1, vi p2, vi p3, vi p4, vi p5, vi p6, vi c0, vi c1, vi c2, vi c3, vi 4, vr b56, vu, vu, vu]) rfl k) ?_
      have hRk := hR0.trans (CHr.keep K82 (fun x hx => nomatch hx) hR0.1)
      show Gf p e below _ T82 m 173 #[vi p1, vi p2, vi p3, vi p4, vi p5, vi p6, vi c0, vi c1, vi c2, vi c3, vi 4, vr b56, vu, vu, vu] []
      exact md41 l Z a0 hw (X82.mono (by decide) (by decide)) hx y hml hZ hown hnm hret hlk rfl hS0 hk82 hRk N82 hfb ec83 Fv82 Fc82 Vs82 hr0 hr1 hr2 hr3 SC hcz SF rf Sa Sh Sl O82
set_option maxRecDepth 65536 in
set_option maxHeartbeats 40000000 in
theorem comes_1 {Post : Tables → Env → Array Value → State → Outcome → State → Prop} (hpost : ∀ tb e args s v u, (limb_1_1.after args s (.returned v) u = true ∧ limb_1_2.after args s (.returned v) u = true ∧ True) → ReturnedEndW s (.returned v) u (Jvm.fieldLocs frame_1_writes args s ++ Jvm.arrayLocs frame_1_arrays args s ++ Jvm.staticLocs frame_1_statics s) 32 4288 → Post tb e args s (.returned v) u) :
    ArmFor flags0 classFile x code maxLocals ret World_1 tables_1 room_1 Calls_1 rest_1 Pre_1 Post := by
  intro l hfl _ _ p e ha hc hk s m args below hf hA hF happ hP
  obtain ⟨hcalls, hrest, hpre⟩ := hP
  obtain ⟨-, -, -, hnamed, -, -, -, hat⟩ := (Spec.applies_iff hf).mp happ
  obtain ⟨hg, hn⟩ := and_e (Cond.before_iff.mp (show (Jvm.Cond.and given_1 narrow_1).before args s = true from hpre))
  obtain ⟨g_c, q_g_c⟩ := and_e hg
  obtain ⟨g_0, q_g_0⟩ := and_e q_g_c
  obtain ⟨g_1, q_g_1⟩ := and_e q_g_0
  obtain ⟨g_2, q_g_2⟩ := and_e q_g_1
  obtain ⟨g_3, q_g_3⟩ := and_e q_g_2
  obtain ⟨g_4, q_g_4⟩ := and_e q_g_3
  have g_5 := q_g_4
  obtain ⟨w_0, w_1, w_2, w_3, w_4, w_5, rfl⟩ : ∃ w_0 w_1 w_2 w_3 w_4 w_5 : Value, args = #[w_0, w_1, w_2, w_3, w_4, w_5] := by
    have hs : args.size = 6 := by simpa [Cond.value, given_1] using g_c
    obtain ⟨L⟩ := args
    match L, hs with
    | [w_0, w_1, w_2, w_3, w_4, w_5], _ => exact ⟨w_0, w_1, w_2, w_3, w_4, w_5, rfl⟩
  have hw := fun d (hd : d ∈ tables_1) => atoms_spec (ws := Jvm.Cond.code x code maxLocals ret :: tables_1) hat d (List.mem_cons_of_mem _ hd)
  have hfit : Fit s := fun {y c} hc i hi => by
    obtain ⟨ha, rfl⟩ := Array.getElem?_eq_some_iff.mp hc
    have q := List.all_eq_true.mp ((Array.all_eq_true_iff_forall_mem.mp hF) _ (Array.getElem_mem ha)) i (List.mem_range.mpr hi)
    simpa [Array.getElem?_eq_getElem hi] using q
  obtain ⟨p1, ei0⟩ := is_v g_0
  obtain rfl : w_0 = (.int p1) := Option.some.inj ei0
  obtain ⟨p2, ei1⟩ := is_v g_1
  obtain rfl : w_1 = (.int p2) := Option.some.inj ei1
  obtain ⟨p3, ei2⟩ := is_v g_2
  obtain rfl : w_2 = (.int p3) := Option.some.inj ei2
  obtain ⟨p4, ei3⟩ := is_v g_3
  obtain rfl : w_3 = (.int p4) := Option.some.inj ei3
  obtain ⟨p5, ei4⟩ := is_v g_4
  obtain rfl : w_4 = (.int p5) := Option.some.inj ei4
  obtain ⟨p6, ei5⟩ := is_v g_5
  obtain rfl : w_5 = (.int p6) := Option.some.inj ei5
  obtain ⟨r0, q_r0⟩ := and_e (Cond.before_iff.mp (show rest_1_c.before _ s = true from hrest))
  obtain ⟨r1, q_r1⟩ := and_e q_r0
  obtain ⟨r2, q_r2⟩ := and_e q_r1
  obtain ⟨r3, q_r3⟩ := and_e q_r2
  obtain ⟨r4, q_r4⟩ := and_e q_r3
  obtain ⟨r5, q_r5⟩ := and_e q_r4
  obtain ⟨r6, q_r6⟩ := and_e q_r5
  obtain ⟨r7, q_r7⟩ := and_e q_r6
  obtain ⟨r8, q_r8⟩ := and_e q_r7
  obtain ⟨r9, q_r9⟩ := and_e q_r8
  obtain ⟨r10, q_r10⟩ := and_e q_r9
  obtain ⟨r11, q_r11⟩ := and_e q_r10
  obtain ⟨r12, q_r12⟩ := and_e q_r11
  obtain ⟨r13, q_r13⟩ := and_e q_r12
  obtain ⟨r14, q_r14⟩ := and_e q_r13
  obtain ⟨r15, q_r15⟩ := and_e q_r14
  obtain ⟨r16, q_r16⟩ := and_e q_r15
  obtain ⟨r17, q_r17⟩ := and_e q_r16
  obtain ⟨r18, q_r18⟩ := and_e q_r17
  have r19 := q_r18
  obtain ⟨cz, ecz⟩ := is_v r1
  have SC := Sta.start ecz (Or.inl (Cond.before_iff.mpr r0))
  have hcz : ¬ cz = 0 := gotF (Cond.eq_ints ecz (Term.int_eval _)) (not_v r2)
  obtain ⟨fm, efm, rf⟩ := isR_v r8
  have SF := Sta.start efm (Or.inl (Cond.before_iff.mpr r7))
  have hCH := CHv.start (EL := own_EL) (own_el hw) hcalls.1 (show Jvm.Lit.compactW.before _ s = true from Cond.before_iff.mpr r2) (w21 hw) (w3 hw)
  have Sa := Sta.start (eq_at r12) (Or.inl (Cond.before_iff.mpr r11))
  have Sh := Sta.start (eq_at r15) (Or.inl (Cond.before_iff.mpr r14))
  have Sl := Sta.start (eq_at r18) (Or.inl (Cond.before_iff.mpr r17))
  obtain ⟨kB, hfb⟩ := own_arB (w21 hw)
  obtain ⟨n, o, h1, h2, h3, _, L, rfl, hQ, hq⟩ := rm0 l s _ hw tables_1 s.heap p1 p2 p3 p4 p5 p6 cz kB fm s.heap.size hfb SC hcz SF rf Sa Sh Sl (Old.start s) p e ha hc hk s m _ below hf ((Spec.applies_iff_loose hf).mp happ).1 ⟨rfl, State.Warmed39.refl s, rfl, hCH⟩ trivial
  obtain ⟨rfl, N⟩ := hQ
  exact ⟨n, _, h1, h2, h3, hpost _ _ _ _ _ _ ⟨Cond.after_iff.mpr rfl, Cond.after_iff.mpr (eq_i res_at (Term.int_eval (1)) rfl), trivial⟩ ⟨hq.1, hq.2.1, hq.2.2.1, (hq.2.2.2.sift fun y hy => Or.inr (N y hy)).mono (by decide) (by decide)⟩⟩
theorem main_1_1 : Claimed_1_1 := comes_1 fun _ _ _ _ _ _ h hF => ⟨h.1, hF⟩
theorem main_1_2 : Claimed_1_2 := comes_1 fun _ _ _ _ _ _ h hF => ⟨h.2.1, hF⟩
end Jvm.Pilot.@@N@@
namespace Jvm.Pilot.@@N@@
open Jvm Jvm.ClassFile Sem Op Lib Jvm.Free Jvm.Stand Jvm.Pilot.@@N@@.Jvm.D
/-! MADE BY PROGRAM (witnessworld.py) out of the Statement's table words and the real class files: 24 classes; the members and pool entries that the words name. The judged class is class 1, her method 1. -/
namespace start1
open Jvm.ClassFile
def u (s : String) : CpInfo := .utf8 (stringToUtf16 s)
/-- a pool by its gaps: so many unusable entries, then the entry; so many at the end -/
def gap : Nat → List CpInfo → List CpInfo
  | 0, r => r
  | n + 1, r => .unusable :: gap n r
def poolList (es : List (Nat × CpInfo)) (last : Nat) : List CpInfo := es.foldr (fun e r => gap e.1 (e.2 :: r)) (gap last [])
def pool (es : List (Nat × CpInfo)) (last : Nat) : Array CpInfo := ⟨poolList es last⟩
def fileOf (pool : Array CpInfo) (this : Nat) (attrs : Array Attribute := #[]) (ms : Array MethodInfo := #[]) (fl : Nat := 33) (sup : Nat := 0) (ifs : Array Nat := #[]) (fds : Array FieldInfo := #[]) : ClassFile where
  minorVersion := 0
  majorVersion := 65
  constantPool := pool
  accessFlags := fl
  thisClass := this
  superClass := sup
  interfaces := ifs
  fields := fds
  methods := ms
  attributes := attrs
def plain (name : String) (sup : Option ClassId) : Class where
  name := name
  kind := .ordinary
  loader := none
  accessFlags := 33
  super := sup
  interfaces := #[]
  cf := none
  fields := #[]
  methods := #[]
  instanceTypes := #[]
  staticTypes := #[]
  resolved := #[]
  callSites := []
  init := .initialized
  statics := none
  mirror := none

def pool0 : Array CpInfo := pool [(5, u "<init>"), (0, u "()V"), (1, .class_ 10), (1, u "java/lang/Object")] 113

def k0c0 : Code := { maxStack := 0, maxLocals := 1, code := object_method_1_code, exceptionTable := #[], attributes := #[] }
def k0m0 : Method := { name := "<init>", desc := "()V", sig := { parameters := [], returnType := none }, accessFlags := 1, code := some k0c0 }
/-- java/lang/Object -/
def k0 : Class := { plain "java/lang/Object" none with
  accessFlags := 33
  interfaces := #[]
  cf := some (fileOf pool0 8 #[] #[{ accessFlags := 1, nameIndex := 5, descriptorIndex := 6, attributes := #[] }] 33 0 #[] #[])
  fields := #[]
  methods := #[k0m0]
  instanceTypes := #[]
  staticTypes := #[]
  resolved := Array.replicate 124 none
  statics := none }

def pool1 : Array CpInfo := pool [(2, .class_ 4), (1, u "java/lang/Object"), (0, u "<init>"), (0, u "()V"), (0, .integer 65535), (0, .integer 2147483647), (0, .string 10), (0, u ""), (0, .class_ 12), (0, u "java/lang/String"), (0, .methodref 11 14), (0, .nameAndType 5 15), (0, u "([C)V"), (0, .class_ 17), (0, u "com/example/rulr/rulr/policy/SqlCondition$Membership"), (0, .string 19), (0, u "c"), (0, .methodref 16 21), (0, .nameAndType 5 22), (0, u "(Ljava/lang/String;Ljava/lang/String;Lcom/example/rulr/rulr/policy/SqlCondition$Span;IZI)V"), (0, .methodref 16 24), (0, .nameAndType 25 26), (0, u "selection"), (0, u "()Ljava/lang/String;"), (0, .methodref 11 28), (0, .nameAndType 29 30), (0, u "length"), (0, u "()I"), (0, .methodref 11 32), (0, .nameAndType 33 34), (0, u "charAt"), (0, u "(I)C"), (0, .class_ 36), (0, u "com/example/rulr/rulr/policy/MembershipSelectionPinLaw"), (2, u "law"), (0, u "(IIIIII)Z")] 10

def k1m0 : Method := { name := "<init>", desc := "()V", sig := { parameters := [], returnType := none }, accessFlags := 1, code := none }
def k1c1 : Code := { maxStack := 8, maxLocals := 15, code := code, exceptionTable := #[], attributes := #[] }
def k1m1 : Method := { name := "law", desc := "(IIIIII)Z", sig := { parameters := [.int, .int, .int, .int, .int, .int], returnType := some .boolean }, accessFlags := 9, code := some k1c1 }
/-- com/example/rulr/rulr/policy/MembershipSelectionPinLaw -/
def k1 : Class := { plain "com/example/rulr/rulr/policy/MembershipSelectionPinLaw" (some 0) with
  accessFlags := 49
  interfaces := #[]
  cf := some (fileOf pool1 35 #[] #[{ accessFlags := 1, nameIndex := 5, descriptorIndex := 6, attributes := #[] }, { accessFlags := 9, nameIndex := 39, descriptorIndex := 40, attributes := #[] }] 49 2 #[] #[])
  fields := #[]
  methods := #[k1m0, k1m1]
  instanceTypes := #[]
  staticTypes := #[]
  resolved := Array.replicate 51 none
  statics := none }

def pool2 : Array CpInfo := pool [(1, .class_ 2), (0, u "java/io/Serializable"), (0, .class_ 4), (0, u "java/lang/Object")] 2

/-- java/io/Serializable -/
def k2 : Class := { plain "java/io/Serializable" (some 0) with
  accessFlags := 1537
  interfaces := #[]
  cf := some (fileOf pool2 1 #[] #[] 1537 3 #[] #[])
  fields := #[]
  methods := #[]
  instanceTypes := #[]
  staticTypes := #[]
  resolved := Array.replicate 7 none
  statics := none }

def pool3 : Array CpInfo := pool [(1, .class_ 2), (0, u "java/lang/Comparable"), (0, .class_ 4), (0, u "java/lang/Object")] 7

/-- java/lang/Comparable -/
def k3 : Class := { plain "java/lang/Comparable" (some 0) with
  accessFlags := 1537
  interfaces := #[]
  cf := some (fileOf pool3 1 #[] #[] 1537 3 #[] #[])
  fields := #[]
  methods := #[]
  instanceTypes := #[]
  staticTypes := #[]
  resolved := Array.replicate 12 none
  statics := none }

def pool4 : Array CpInfo := pool [(2, .class_ 4), (1, u "java/lang/CharSequence"), (42, .class_ 48), (0, u "java/lang/CharSequence$1CodePointIterator"), (10, .class_ 60), (0, u "java/lang/CharSequence$1CharIterator"), (5, .class_ 67), (0, u "java/lang/Object")] 63

/-- java/lang/CharSequence -/
def k4 : Class := { plain "java/lang/CharSequence" (some 0) with
  accessFlags := 1537
  interfaces := #[]
  cf := some (fileOf pool4 2 #[.nestMembers #[47, 59]] #[] 1537 66 #[] #[])
  fields := #[]
  methods := #[]
  instanceTypes := #[]
  staticTypes := #[]
  resolved := Array.replicate 131 none
  statics := none }

def pool5 : Array CpInfo := pool [(1, .class_ 2), (0, u "java/lang/constant/Constable"), (0, .class_ 4), (0, u "java/lang/Object")] 6

/-- java/lang/constant/Constable -/
def k5 : Class := { plain "java/lang/constant/Constable" (some 0) with
  accessFlags := 1537
  interfaces := #[]
  cf := some (fileOf pool5 1 #[] #[] 1537 3 #[] #[])
  fields := #[]
  methods := #[]
  instanceTypes := #[]
  staticTypes := #[]
  resolved := Array.replicate 11 none
  statics := none }

def pool6 : Array CpInfo := pool [(1, .class_ 2), (0, u "java/lang/constant/ConstantDesc"), (0, .class_ 4), (0, u "java/lang/Object")] 32

/-- java/lang/constant/ConstantDesc -/
def k6 : Class := { plain "java/lang/constant/ConstantDesc" (some 0) with
  accessFlags := 1537
  interfaces := #[]
  cf := some (fileOf pool6 1 #[] #[] 1537 3 #[] #[])
  fields := #[]
  methods := #[]
  instanceTypes := #[]
  staticTypes := #[]
  resolved := Array.replicate 37 none
  statics := none }

def pool7 : Array CpInfo := pool [(1, .methodref 2 3), (0, .class_ 4), (0, .nameAndType 5 6), (0, u "java/lang/Object"), (0, u "<init>"), (0, u "()V"), (2, .fieldref 10 11), (0, .class_ 12), (0, .nameAndType 13 14), (0, u "java/lang/String"), (0, u "value"), (0, u "[B"), (0, .fieldref 10 16), (0, .nameAndType 17 18), (0, u "coder"), (0, u "B"), (2, u "hash"), (0, u "I"), (2, u "hashIsZero"), (0, u "Z"), (0, .methodref 10 28), (0, .nameAndType 5 29), (0, u "([CIILjava/lang/Void;)V"), (6, u "checkBoundsOffCount"), (0, u "(III)I"), (0, .fieldref 10 39), (0, .nameAndType 40 26), (0, u "COMPACT_STRINGS"), (1, .class_ 44), (1, u "java/lang/StringUTF16"), (0, u "compress"), (1, .methodref 42 48), (0, .nameAndType 49 50), (0, u "coderFromArrayLen"), (0, u "([BI)B"), (56, .class_ 109), (1, u "java/lang/StringLatin1"), (32, u "()Z"), (34, .methodref 42 178), (0, .nameAndType 45 179), (0, u "([CII)[B"), (31, u "([BB)V"), (122, u "()I"), (0, .methodref 10 336), (0, .nameAndType 17 337), (0, u "()B"), (25, u "([BI)C"), (27, u "(II)V"), (35, u "(I)C"), (64, .methodref 10 493), (0, .nameAndType 494 142), (0, u "isLatin1"), (0, .methodref 107 496), (0, .nameAndType 497 363), (0, u "charAt"), (0, .methodref 42 496), (2, u "checkIndex"), (3, .methodref 10 506), (0, .nameAndType 507 334), (0, u "length"), (5, u "checkFromToIndex"), (7, .methodref 10 522), (0, .nameAndType 523 524), (0, u "checkBoundsBeginEnd"), (0, u "(III)V"), (50, .class_ 576), (0, u "java/lang/CharSequence"), (22, u "CASE_INSENSITIVE_ORDER"), (0, u "Ljava/util/Comparator;"), (82, u "substring"), (0, u "(II)Ljava/lang/String;"), (0, .methodref 107 686), (0, .nameAndType 687 688), (0, u "newString"), (0, u "([BII)Ljava/lang/String;"), (0, .methodref 42 686), (320, u "([C)V"), (42, .fieldref 1054 1055), (0, .class_ 1056), (0, .nameAndType 1057 1058), (0, u "jdk/internal/util/Preconditions"), (0, u "SIOOBE_FORMATTER"), (0, u "Ljava/util/function/BiFunction;"), (0, .methodref 1054 1060), (0, .nameAndType 501 1061), (0, u "(IILjava/util/function/BiFunction;)I"), (0, .methodref 1054 1063), (0, .nameAndType 513 1064), (0, u "(IIILjava/util/function/BiFunction;)I"), (0, .methodref 1054 1066), (0, .nameAndType 1067 1064), (0, u "checkFromIndexSize"), (33, u "serialPersistentFields"), (0, u "[Ljava/io/ObjectStreamField;"), (0, .class_ 1104), (0, u "java/lang/String$CaseInsensitiveComparator"), (1, .class_ 1107), (0, u "java/io/Serializable"), (0, .class_ 1109), (0, u "java/lang/Comparable"), (0, .class_ 1111), (0, u "java/lang/constant/Constable"), (0, .class_ 1113), (0, u "java/lang/constant/ConstantDesc"), (2, u "serialVersionUID"), (0, u "J"), (3, u "REPL"), (0, u "C"), (2, u "LATIN1"), (1, u "UTF16")] 323

def k7m0 : Method := { name := "<init>", desc := "()V", sig := { parameters := [], returnType := none }, accessFlags := 1, code := none }
def k7c1 : Code := { maxStack := 5, maxLocals := 2, code := jdk_42_method_3_code, exceptionTable := #[], attributes := #[] }
def k7m1 : Method := { name := "<init>", desc := "([C)V", sig := { parameters := [(.array .char)], returnType := none }, accessFlags := 1, code := some k7c1 }
def k7c2 : Code := { maxStack := 2, maxLocals := 1, code := jdk_42_method_54_code, exceptionTable := #[], attributes := #[] }
def k7m2 : Method := { name := "length", desc := "()I", sig := { parameters := [], returnType := some .int }, accessFlags := 1, code := some k7c2 }
def k7c3 : Code := { maxStack := 2, maxLocals := 2, code := jdk_42_method_56_code, exceptionTable := #[], attributes := #[] }
def k7m3 : Method := { name := "charAt", desc := "(I)C", sig := { parameters := [.int], returnType := some .char }, accessFlags := 1, code := some k7c3 }
def k7c4 : Code := { maxStack := 3, maxLocals := 5, code := jdk_42_method_92_code, exceptionTable := #[], attributes := #[] }
def k7m4 : Method := { name := "substring", desc := "(II)Ljava/lang/String;", sig := { parameters := [.int, .int], returnType := some (.object "java/lang/String") }, accessFlags := 1, code := some k7c4 }
def k7c5 : Code := { maxStack := 4, maxLocals := 6, code := jdk_42_method_149_code, exceptionTable := #[], attributes := #[] }
def k7m5 : Method := { name := "<init>", desc := "([CIILjava/lang/Void;)V", sig := { parameters := [(.array .char), .int, .int, (.object "java/lang/Void")], returnType := none }, accessFlags := 2, code := some k7c5 }
def k7c6 : Code := { maxStack := 2, maxLocals := 3, code := jdk_42_method_151_code, exceptionTable := #[], attributes := #[] }
def k7m6 : Method := { name := "<init>", desc := "([BB)V", sig := { parameters := [(.array .byte), .byte], returnType := none }, accessFlags := 0, code := some k7c6 }
def k7c7 : Code := { maxStack := 1, maxLocals := 1, code := jdk_42_method_152_code, exceptionTable := #[], attributes := #[] }
def k7m7 : Method := { name := "coder", desc := "()B", sig := { parameters := [], returnType := some .byte }, accessFlags := 0, code := some k7c7 }
def k7c8 : Code := { maxStack := 1, maxLocals := 1, code := jdk_42_method_154_code, exceptionTable := #[], attributes := #[] }
def k7m8 : Method := { name := "isLatin1", desc := "()Z", sig := { parameters := [], returnType := some .boolean }, accessFlags := 0, code := some k7c8 }
def k7c9 : Code := { maxStack := 3, maxLocals := 2, code := jdk_42_method_155_code, exceptionTable := #[], attributes := #[] }
def k7m9 : Method := { name := "checkIndex", desc := "(II)V", sig := { parameters := [.int, .int], returnType := none }, accessFlags := 8, code := some k7c9 }
def k7c10 : Code := { maxStack := 4, maxLocals := 3, code := jdk_42_method_157_code, exceptionTable := #[], attributes := #[] }
def k7m10 : Method := { name := "checkBoundsOffCount", desc := "(III)I", sig := { parameters := [.int, .int, .int], returnType := some .int }, accessFlags := 8, code := some k7c10 }
def k7c11 : Code := { maxStack := 4, maxLocals := 3, code := jdk_42_method_158_code, exceptionTable := #[], attributes := #[] }
def k7m11 : Method := { name := "checkBoundsBeginEnd", desc := "(III)V", sig := { parameters := [.int, .int, .int], returnType := none }, accessFlags := 8, code := some k7c11 }
/-- java/lang/String -/
def k7 : Class := { plain "java/lang/String" (some 0) with
  accessFlags := 49
  interfaces := #[2, 3, 4, 5, 6]
  cf := some (fileOf pool7 10 #[.nestMembers #[1103]] #[{ accessFlags := 1, nameIndex := 5, descriptorIndex := 6, attributes := #[] }, { accessFlags := 1, nameIndex := 5, descriptorIndex := 1010, attributes := #[] }, { accessFlags := 1, nameIndex := 507, descriptorIndex := 334, attributes := #[] }, { accessFlags := 1, nameIndex := 497, descriptorIndex := 427, attributes := #[] }, { accessFlags := 1, nameIndex := 683, descriptorIndex := 684, attributes := #[] }, { accessFlags := 2, nameIndex := 5, descriptorIndex := 29, attributes := #[] }, { accessFlags := 0, nameIndex := 5, descriptorIndex := 211, attributes := #[] }, { accessFlags := 0, nameIndex := 17, descriptorIndex := 337, attributes := #[] }, { accessFlags := 0, nameIndex := 494, descriptorIndex := 142, attributes := #[] }, { accessFlags := 8, nameIndex := 501, descriptorIndex := 391, attributes := #[] }, { accessFlags := 8, nameIndex := 36, descriptorIndex := 37, attributes := #[] }, { accessFlags := 8, nameIndex := 523, descriptorIndex := 524, attributes := #[] }] 49 2 #[1106, 1108, 575, 1110, 1112] #[{ accessFlags := 18, nameIndex := 13, descriptorIndex := 14, attributes := #[] }, { accessFlags := 18, nameIndex := 17, descriptorIndex := 18, attributes := #[] }, { accessFlags := 2, nameIndex := 21, descriptorIndex := 22, attributes := #[] }, { accessFlags := 2, nameIndex := 25, descriptorIndex := 26, attributes := #[] }, { accessFlags := 26, nameIndex := 1116, descriptorIndex := 1117, attributes := #[] }, { accessFlags := 24, nameIndex := 40, descriptorIndex := 26, attributes := #[] }, { accessFlags := 26, nameIndex := 1101, descriptorIndex := 1102, attributes := #[] }, { accessFlags := 26, nameIndex := 1121, descriptorIndex := 1122, attributes := #[] }, { accessFlags := 25, nameIndex := 599, descriptorIndex := 600, attributes := #[] }, { accessFlags := 24, nameIndex := 1125, descriptorIndex := 18, attributes := #[] }, { accessFlags := 24, nameIndex := 1127, descriptorIndex := 18, attributes := #[] }])
  fields := #[{ name := "value", type := (.array .byte), accessFlags := 18, slot := 0, constantValue := 0 }, { name := "coder", type := .byte, accessFlags := 18, slot := 1, constantValue := 0 }, { name := "hash", type := .int, accessFlags := 2, slot := 2, constantValue := 0 }, { name := "hashIsZero", type := .boolean, accessFlags := 2, slot := 3, constantValue := 0 }, { name := "serialVersionUID", type := .long, accessFlags := 26, slot := 0, constantValue := 0 }, { name := "COMPACT_STRINGS", type := .boolean, accessFlags := 24, slot := 1, constantValue := 0 }, { name := "serialPersistentFields", type := (.array (.object "java/io/ObjectStreamField")), accessFlags := 26, slot := 2, constantValue := 0 }, { name := "REPL", type := .char, accessFlags := 26, slot := 3, constantValue := 0 }, { name := "CASE_INSENSITIVE_ORDER", type := (.object "java/util/Comparator"), accessFlags := 25, slot := 4, constantValue := 0 }, { name := "LATIN1", type := .byte, accessFlags := 24, slot := 5, constantValue := 0 }, { name := "UTF16", type := .byte, accessFlags := 24, slot := 6, constantValue := 0 }]
  methods := #[k7m0, k7m1, k7m2, k7m3, k7m4, k7m5, k7m6, k7m7, k7m8, k7m9, k7m10, k7m11]
  instanceTypes := #[(.array .byte), .byte, .int, .boolean]
  staticTypes := #[.long, .boolean, (.array (.object "java/io/ObjectStreamField")), .char, (.object "java/util/Comparator"), .byte, .byte]
  resolved := Array.replicate 1451 none
  statics := some 0 }

def pool8 : Array CpInfo := pool [(3, .class_ 4), (0, u "java/lang/String"), (1, .class_ 8), (1, u "java/lang/Object"), (0, u "<init>"), (0, u "()V"), (0, .methodref 12 13), (0, .class_ 14), (0, .nameAndType 15 16), (0, u "java/lang/StringUTF16"), (0, u "newBytesLength"), (0, u "(I)I"), (3, .integer 1073741823), (23, .fieldref 12 45), (0, .nameAndType 46 47), (0, u "$assertionsDisabled"), (0, u "Z"), (0, .methodref 12 49), (0, .nameAndType 50 51), (0, u "length"), (0, u "([B)I"), (7, .fieldref 12 60), (0, .nameAndType 61 62), (0, u "HI_BYTE_SHIFT"), (0, u "I"), (0, .fieldref 12 64), (0, .nameAndType 65 62), (0, u "LO_BYTE_SHIFT"), (1, .methodref 12 68), (0, .nameAndType 69 70), (0, u "checkIndex"), (0, u "(I[B)V"), (0, .methodref 12 72), (0, .nameAndType 73 74), (0, u "getChar"), (0, u "([BI)C"), (24, u "(II[B)V"), (7, .methodref 12 108), (0, .nameAndType 109 110), (0, u "newBytesFor"), (0, u "(I)[B"), (0, .methodref 12 112), (0, .nameAndType 113 114), (0, u "putChar"), (0, u "([BII)V"), (0, .methodref 12 116), (0, .nameAndType 117 118), (0, u "compress"), (0, u "([CI[BII)I"), (0, .methodref 12 120), (0, .nameAndType 121 122), (0, u "toBytes"), (0, u "([CII)[B"), (0, .methodref 12 124), (0, .nameAndType 117 125), (0, u "([BI[BII)I"), (0, .methodref 127 128), (0, .class_ 129), (0, .nameAndType 130 131), (0, u "java/util/Arrays"), (0, u "copyOfRange"), (0, u "([BII)[B"), (41, .methodref 12 174), (0, .nameAndType 175 99), (0, u "checkBoundsOffCount"), (75, .fieldref 3 252), (0, .nameAndType 253 47), (0, u "COMPACT_STRINGS"), (3, .methodref 12 258), (0, .nameAndType 117 131), (0, .methodref 12 260), (0, .nameAndType 261 262), (0, u "coderFromArrayLen"), (0, u "([BI)B"), (0, .methodref 3 264), (0, .nameAndType 9 265), (0, u "([BB)V"), (15, u "(III)I"), (13, .string 296), (0, u ""), (30, u "newString"), (0, u "([BII)Ljava/lang/String;"), (40, .class_ 371), (1, u "java/lang/StringUTF16$LinesSpliterator"), (20, u "charAt"), (21, .methodref 3 415), (0, .nameAndType 69 416), (0, u "(II)V"), (2, .methodref 3 420), (0, .nameAndType 175 281), (9, u "MAX_LENGTH"), (196, .class_ 628), (0, u "java/lang/StringUTF16$CodePointsSpliterator"), (0, .class_ 630), (0, u "java/lang/StringUTF16$CharsSpliterator")] 4

def k8m0 : Method := { name := "<init>", desc := "()V", sig := { parameters := [], returnType := none }, accessFlags := 0, code := none }
def k8c1 : Code := { maxStack := 1, maxLocals := 1, code := jdk_52_method_2_code, exceptionTable := #[], attributes := #[] }
def k8m1 : Method := { name := "newBytesFor", desc := "(I)[B", sig := { parameters := [.int], returnType := some (.array .byte) }, accessFlags := 9, code := some k8c1 }
def k8c2 : Code := { maxStack := 4, maxLocals := 1, code := jdk_52_method_3_code, exceptionTable := #[], attributes := #[] }
def k8m2 : Method := { name := "newBytesLength", desc := "(I)I", sig := { parameters := [.int], returnType := some .int }, accessFlags := 9, code := some k8c2 }
def k8c3 : Code := { maxStack := 4, maxLocals := 3, code := jdk_52_method_4_code, exceptionTable := #[], attributes := #[] }
def k8m3 : Method := { name := "putChar", desc := "([BII)V", sig := { parameters := [(.array .byte), .int, .int], returnType := none }, accessFlags := 8, code := some k8c3 }
def k8c4 : Code := { maxStack := 3, maxLocals := 2, code := jdk_52_method_5_code, exceptionTable := #[], attributes := #[] }
def k8m4 : Method := { name := "getChar", desc := "([BI)C", sig := { parameters := [(.array .byte), .int], returnType := some .char }, accessFlags := 8, code := some k8c4 }
def k8c5 : Code := { maxStack := 2, maxLocals := 1, code := jdk_52_method_6_code, exceptionTable := #[], attributes := #[] }
def k8m5 : Method := { name := "length", desc := "([B)I", sig := { parameters := [(.array .byte)], returnType := some .int }, accessFlags := 9, code := some k8c5 }
def k8c6 : Code := { maxStack := 4, maxLocals := 5, code := jdk_52_method_14_code, exceptionTable := #[], attributes := #[] }
def k8m6 : Method := { name := "toBytes", desc := "([CII)[B", sig := { parameters := [(.array .char), .int, .int], returnType := some (.array .byte) }, accessFlags := 9, code := some k8c6 }
def k8c7 : Code := { maxStack := 2, maxLocals := 2, code := jdk_52_method_15_code, exceptionTable := #[], attributes := #[] }
def k8m7 : Method := { name := "coderFromArrayLen", desc := "([BI)B", sig := { parameters := [(.array .byte), .int], returnType := some .byte }, accessFlags := 8, code := some k8c7 }
def k8c8 : Code := { maxStack := 5, maxLocals := 6, code := jdk_52_method_16_code, exceptionTable := #[], attributes := #[] }
def k8m8 : Method := { name := "compress", desc := "([CII)[B", sig := { parameters := [(.array .char), .int, .int], returnType := some (.array .byte) }, accessFlags := 9, code := some k8c8 }
def k8c9 : Code := { maxStack := 5, maxLocals := 6, code := jdk_52_method_17_code, exceptionTable := #[], attributes := #[] }
def k8m9 : Method := { name := "compress", desc := "([BII)[B", sig := { parameters := [(.array .byte), .int, .int], returnType := some (.array .byte) }, accessFlags := 9, code := some k8c9 }
def k8c10 : Code := { maxStack := 3, maxLocals := 7, code := jdk_52_method_21_code, exceptionTable := #[], attributes := #[] }
def k8m10 : Method := { name := "compress", desc := "([CI[BII)I", sig := { parameters := [(.array .char), .int, (.array .byte), .int, .int], returnType := some .int }, accessFlags := 9, code := some k8c10 }
def k8c11 : Code := { maxStack := 3, maxLocals := 7, code := jdk_52_method_22_code, exceptionTable := #[], attributes := #[] }
def k8m11 : Method := { name := "compress", desc := "([BI[BII)I", sig := { parameters := [(.array .byte), .int, (.array .byte), .int, .int], returnType := some .int }, accessFlags := 9, code := some k8c11 }
def k8c12 : Code := { maxStack := 6, maxLocals := 5, code := jdk_52_method_69_code, exceptionTable := #[], attributes := #[] }
def k8m12 : Method := { name := "newString", desc := "([BII)Ljava/lang/String;", sig := { parameters := [(.array .byte), .int, .int], returnType := some (.object "java/lang/String") }, accessFlags := 9, code := some k8c12 }
def k8c13 : Code := { maxStack := 2, maxLocals := 2, code := jdk_52_method_83_code, exceptionTable := #[], attributes := #[] }
def k8m13 : Method := { name := "charAt", desc := "([BI)C", sig := { parameters := [(.array .byte), .int], returnType := some .char }, accessFlags := 9, code := some k8c13 }
def k8c14 : Code := { maxStack := 2, maxLocals := 2, code := jdk_52_method_91_code, exceptionTable := #[], attributes := #[] }
def k8m14 : Method := { name := "checkIndex", desc := "(I[B)V", sig := { parameters := [.int, (.array .byte)], returnType := none }, accessFlags := 9, code := some k8c14 }
def k8c15 : Code := { maxStack := 3, maxLocals := 3, code := jdk_52_method_94_code, exceptionTable := #[], attributes := #[] }
def k8m15 : Method := { name := "checkBoundsOffCount", desc := "(II[B)V", sig := { parameters := [.int, .int, (.array .byte)], returnType := none }, accessFlags := 9, code := some k8c15 }
/-- java/lang/StringUTF16 -/
def k8 : Class := { plain "java/lang/StringUTF16" (some 0) with
  accessFlags := 48
  interfaces := #[]
  cf := some (fileOf pool8 12 #[.nestMembers #[627, 629, 369]] #[{ accessFlags := 0, nameIndex := 9, descriptorIndex := 10, attributes := #[] }, { accessFlags := 9, nameIndex := 109, descriptorIndex := 110, attributes := #[] }, { accessFlags := 9, nameIndex := 15, descriptorIndex := 16, attributes := #[] }, { accessFlags := 8, nameIndex := 113, descriptorIndex := 114, attributes := #[] }, { accessFlags := 8, nameIndex := 73, descriptorIndex := 74, attributes := #[] }, { accessFlags := 9, nameIndex := 50, descriptorIndex := 51, attributes := #[] }, { accessFlags := 9, nameIndex := 121, descriptorIndex := 122, attributes := #[] }, { accessFlags := 8, nameIndex := 261, descriptorIndex := 262, attributes := #[] }, { accessFlags := 9, nameIndex := 117, descriptorIndex := 122, attributes := #[] }, { accessFlags := 9, nameIndex := 117, descriptorIndex := 131, attributes := #[] }, { accessFlags := 9, nameIndex := 117, descriptorIndex := 118, attributes := #[] }, { accessFlags := 9, nameIndex := 117, descriptorIndex := 125, attributes := #[] }, { accessFlags := 9, nameIndex := 327, descriptorIndex := 328, attributes := #[] }, { accessFlags := 9, nameIndex := 392, descriptorIndex := 74, attributes := #[] }, { accessFlags := 9, nameIndex := 69, descriptorIndex := 70, attributes := #[] }, { accessFlags := 9, nameIndex := 175, descriptorIndex := 99, attributes := #[] }] 48 6 #[] #[{ accessFlags := 26, nameIndex := 61, descriptorIndex := 62, attributes := #[] }, { accessFlags := 26, nameIndex := 65, descriptorIndex := 62, attributes := #[] }, { accessFlags := 24, nameIndex := 430, descriptorIndex := 62, attributes := #[] }, { accessFlags := 4120, nameIndex := 46, descriptorIndex := 47, attributes := #[] }])
  fields := #[{ name := "HI_BYTE_SHIFT", type := .int, accessFlags := 26, slot := 0, constantValue := 0 }, { name := "LO_BYTE_SHIFT", type := .int, accessFlags := 26, slot := 1, constantValue := 0 }, { name := "MAX_LENGTH", type := .int, accessFlags := 24, slot := 2, constantValue := 0 }, { name := "$assertionsDisabled", type := .boolean, accessFlags := 4120, slot := 3, constantValue := 0 }]
  methods := #[k8m0, k8m1, k8m2, k8m3, k8m4, k8m5, k8m6, k8m7, k8m8, k8m9, k8m10, k8m11, k8m12, k8m13, k8m14, k8m15]
  instanceTypes := #[]
  staticTypes := #[.int, .int, .int, .boolean]
  resolved := Array.replicate 635 none
  statics := some 1 }

def pool9 : Array CpInfo := pool [(1, .methodref 2 3), (0, .class_ 4), (0, .nameAndType 5 6), (0, u "java/lang/Object"), (0, u "<init>"), (0, u "()V"), (0, .class_ 8), (0, u "java/lang/Record")] 13

def k9c0 : Code := { maxStack := 1, maxLocals := 1, code := jdk_30_method_1_code, exceptionTable := #[], attributes := #[] }
def k9m0 : Method := { name := "<init>", desc := "()V", sig := { parameters := [], returnType := none }, accessFlags := 4, code := some k9c0 }
/-- java/lang/Record -/
def k9 : Class := { plain "java/lang/Record" (some 0) with
  accessFlags := 1057
  interfaces := #[]
  cf := some (fileOf pool9 7 #[] #[{ accessFlags := 4, nameIndex := 5, descriptorIndex := 6, attributes := #[] }] 1057 2 #[] #[])
  fields := #[]
  methods := #[k9m0]
  instanceTypes := #[]
  staticTypes := #[]
  resolved := Array.replicate 22 none
  statics := none }

def pool10 : Array CpInfo := pool [(1, .methodref 2 3), (0, .class_ 4), (0, .nameAndType 5 6), (0, u "java/lang/Record"), (0, u "<init>"), (0, u "()V"), (0, .fieldref 8 9), (0, .class_ 10), (0, .nameAndType 11 12), (0, u "com/example/rulr/rulr/policy/SqlCondition$Membership"), (0, u "column"), (0, u "Ljava/lang/String;"), (0, .fieldref 8 14), (0, .nameAndType 15 12), (0, u "query"), (0, .fieldref 8 17), (0, .nameAndType 18 19), (0, u "varying"), (0, u "Lcom/example/rulr/rulr/policy/SqlCondition$Span;"), (0, .fieldref 8 21), (0, .nameAndType 22 23), (0, u "selected"), (0, u "I"), (0, .fieldref 8 25), (0, .nameAndType 26 27), (0, u "anchored"), (0, u "Z"), (0, .fieldref 8 29), (0, .nameAndType 30 23), (0, u "joined"), (10, .methodref 42 43), (0, .class_ 44), (0, .nameAndType 45 46), (0, u "java/lang/String"), (0, u "substring"), (0, u "(II)Ljava/lang/String;"), (29, u "WHERE"), (1, u "(Ljava/lang/String;Ljava/lang/String;Lcom/example/rulr/rulr/policy/SqlCondition$Span;IZI)V"), (4, u "()Ljava/lang/String;"), (5, u "selection"), (7, .class_ 98), (0, u "com/example/rulr/rulr/policy/SqlCondition")] 33

def k10c0 : Code := { maxStack := 2, maxLocals := 7, code := prog_56_method_1_code, exceptionTable := #[], attributes := #[] }
def k10m0 : Method := { name := "<init>", desc := "(Ljava/lang/String;Ljava/lang/String;Lcom/example/rulr/rulr/policy/SqlCondition$Span;IZI)V", sig := { parameters := [(.object "java/lang/String"), (.object "java/lang/String"), (.object "com/example/rulr/rulr/policy/SqlCondition$Span"), .int, .boolean, .int], returnType := none }, accessFlags := 0, code := some k10c0 }
def k10c1 : Code := { maxStack := 3, maxLocals := 1, code := prog_56_method_4_code, exceptionTable := #[], attributes := #[] }
def k10m1 : Method := { name := "selection", desc := "()Ljava/lang/String;", sig := { parameters := [], returnType := some (.object "java/lang/String") }, accessFlags := 0, code := some k10c1 }
/-- com/example/rulr/rulr/policy/SqlCondition$Membership -/
def k10 : Class := { plain "com/example/rulr/rulr/policy/SqlCondition$Membership" (some 9) with
  accessFlags := 48
  interfaces := #[]
  cf := some (fileOf pool10 8 #[.nestHost 97] #[{ accessFlags := 0, nameIndex := 5, descriptorIndex := 78, attributes := #[] }, { accessFlags := 0, nameIndex := 89, descriptorIndex := 83, attributes := #[] }] 48 2 #[] #[{ accessFlags := 18, nameIndex := 11, descriptorIndex := 12, attributes := #[] }, { accessFlags := 18, nameIndex := 15, descriptorIndex := 12, attributes := #[] }, { accessFlags := 18, nameIndex := 18, descriptorIndex := 19, attributes := #[] }, { accessFlags := 18, nameIndex := 22, descriptorIndex := 23, attributes := #[] }, { accessFlags := 18, nameIndex := 26, descriptorIndex := 27, attributes := #[] }, { accessFlags := 18, nameIndex := 30, descriptorIndex := 23, attributes := #[] }, { accessFlags := 24, nameIndex := 76, descriptorIndex := 12, attributes := #[] }])
  fields := #[{ name := "column", type := (.object "java/lang/String"), accessFlags := 18, slot := 0, constantValue := 0 }, { name := "query", type := (.object "java/lang/String"), accessFlags := 18, slot := 1, constantValue := 0 }, { name := "varying", type := (.object "com/example/rulr/rulr/policy/SqlCondition$Span"), accessFlags := 18, slot := 2, constantValue := 0 }, { name := "selected", type := .int, accessFlags := 18, slot := 3, constantValue := 0 }, { name := "anchored", type := .boolean, accessFlags := 18, slot := 4, constantValue := 0 }, { name := "joined", type := .int, accessFlags := 18, slot := 5, constantValue := 0 }, { name := "WHERE", type := (.object "java/lang/String"), accessFlags := 24, slot := 0, constantValue := 0 }]
  methods := #[k10m0, k10m1]
  instanceTypes := #[(.object "java/lang/String"), (.object "java/lang/String"), (.object "com/example/rulr/rulr/policy/SqlCondition$Span"), .int, .boolean, .int]
  staticTypes := #[(.object "java/lang/String")]
  resolved := Array.replicate 132 none
  statics := none }

def pool11 : Array CpInfo := pool [(2, .class_ 4), (1, u "java/lang/Object"), (0, u "<init>"), (0, u "()V"), (17, .class_ 26), (1, u "jdk/internal/util/Preconditions"), (6, u "checkIndex"), (13, u "checkFromToIndex"), (1, u "checkFromIndexSize"), (5, .class_ 56), (0, u "jdk/internal/util/Preconditions$4"), (57, .class_ 115), (0, u "jdk/internal/util/Preconditions$1"), (7, u "SIOOBE_FORMATTER"), (0, u "Ljava/util/function/BiFunction;"), (0, .class_ 126), (0, u "jdk/internal/util/Preconditions$2"), (3, u "AIOOBE_FORMATTER"), (0, .class_ 132), (0, u "jdk/internal/util/Preconditions$3"), (3, u "IOOBE_FORMATTER"), (41, u "(IILjava/util/function/BiFunction;)I"), (4, u "(IIILjava/util/function/BiFunction;)I")] 10

def k11m0 : Method := { name := "<init>", desc := "()V", sig := { parameters := [], returnType := none }, accessFlags := 1, code := none }
def k11c1 : Code := { maxStack := 3, maxLocals := 3, code := jdk_41_method_11_code, exceptionTable := #[], attributes := #[] }
def k11m1 : Method := { name := "checkIndex", desc := "(IILjava/util/function/BiFunction;)I", sig := { parameters := [.int, .int, (.object "java/util/function/BiFunction")], returnType := some .int }, accessFlags := 9, code := some k11c1 }
def k11c2 : Code := { maxStack := 4, maxLocals := 4, code := jdk_41_method_12_code, exceptionTable := #[], attributes := #[] }
def k11m2 : Method := { name := "checkFromToIndex", desc := "(IIILjava/util/function/BiFunction;)I", sig := { parameters := [.int, .int, .int, (.object "java/util/function/BiFunction")], returnType := some .int }, accessFlags := 9, code := some k11c2 }
def k11c3 : Code := { maxStack := 4, maxLocals := 4, code := jdk_41_method_13_code, exceptionTable := #[], attributes := #[] }
def k11m3 : Method := { name := "checkFromIndexSize", desc := "(IIILjava/util/function/BiFunction;)I", sig := { parameters := [.int, .int, .int, (.object "java/util/function/BiFunction")], returnType := some .int }, accessFlags := 9, code := some k11c3 }
/-- jdk/internal/util/Preconditions -/
def k11 : Class := { plain "jdk/internal/util/Preconditions" (some 0) with
  accessFlags := 33
  interfaces := #[]
  cf := some (fileOf pool11 24 #[.nestMembers #[55, 131, 125, 114]] #[{ accessFlags := 1, nameIndex := 5, descriptorIndex := 6, attributes := #[] }, { accessFlags := 9, nameIndex := 33, descriptorIndex := 178, attributes := #[] }, { accessFlags := 9, nameIndex := 47, descriptorIndex := 183, attributes := #[] }, { accessFlags := 9, nameIndex := 49, descriptorIndex := 183, attributes := #[] }] 33 2 #[] #[{ accessFlags := 25, nameIndex := 123, descriptorIndex := 124, attributes := #[] }, { accessFlags := 25, nameIndex := 130, descriptorIndex := 124, attributes := #[] }, { accessFlags := 25, nameIndex := 136, descriptorIndex := 124, attributes := #[] }])
  fields := #[{ name := "SIOOBE_FORMATTER", type := (.object "java/util/function/BiFunction"), accessFlags := 25, slot := 0, constantValue := 0 }, { name := "AIOOBE_FORMATTER", type := (.object "java/util/function/BiFunction"), accessFlags := 25, slot := 1, constantValue := 0 }, { name := "IOOBE_FORMATTER", type := (.object "java/util/function/BiFunction"), accessFlags := 25, slot := 2, constantValue := 0 }]
  methods := #[k11m0, k11m1, k11m2, k11m3]
  instanceTypes := #[]
  staticTypes := #[(.object "java/util/function/BiFunction"), (.object "java/util/function/BiFunction"), (.object "java/util/function/BiFunction")]
  resolved := Array.replicate 194 none
  statics := some 2 }

def pool12 : Array CpInfo := pool [(1, .class_ 2), (0, u "java/lang/String"), (1, .class_ 6), (1, u "java/lang/Object"), (0, u "<init>"), (0, u "()V"), (0, .methodref 1 10), (0, .nameAndType 11 12), (0, u "checkIndex"), (0, u "(II)V"), (1, .class_ 16), (1, u "java/lang/StringLatin1"), (36, u "([BI)C"), (58, .methodref 1 113), (0, .nameAndType 7 114), (0, u "([BB)V"), (6, u "$assertionsDisabled"), (0, u "Z"), (8, .class_ 133), (1, u "java/util/Arrays"), (17, .string 152), (0, u ""), (43, u "newString"), (0, u "([BII)Ljava/lang/String;"), (23, .class_ 223), (1, u "java/lang/StringLatin1$LinesSpliterator"), (8, .methodref 131 233), (0, .nameAndType 234 235), (0, u "copyOfRange"), (0, u "([BII)[B"), (16, u "charAt"), (137, .class_ 391), (0, u "java/lang/StringLatin1$CharsSpliterator")] 3

def k12m0 : Method := { name := "<init>", desc := "()V", sig := { parameters := [], returnType := none }, accessFlags := 0, code := none }
def k12c1 : Code := { maxStack := 2, maxLocals := 2, code := jdk_43_method_2_code, exceptionTable := #[], attributes := #[] }
def k12m1 : Method := { name := "charAt", desc := "([BI)C", sig := { parameters := [(.array .byte), .int], returnType := some .char }, accessFlags := 9, code := some k12c1 }
def k12c2 : Code := { maxStack := 6, maxLocals := 3, code := jdk_43_method_47_code, exceptionTable := #[], attributes := #[] }
def k12m2 : Method := { name := "newString", desc := "([BII)Ljava/lang/String;", sig := { parameters := [(.array .byte), .int, .int], returnType := some (.object "java/lang/String") }, accessFlags := 9, code := some k12c2 }
/-- java/lang/StringLatin1 -/
def k12 : Class := { plain "java/lang/StringLatin1" (some 0) with
  accessFlags := 48
  interfaces := #[]
  cf := some (fileOf pool12 14 #[.nestMembers #[390, 221]] #[{ accessFlags := 0, nameIndex := 7, descriptorIndex := 8, attributes := #[] }, { accessFlags := 9, nameIndex := 252, descriptorIndex := 53, attributes := #[] }, { accessFlags := 9, nameIndex := 196, descriptorIndex := 197, attributes := #[] }] 48 4 #[] #[{ accessFlags := 4120, nameIndex := 121, descriptorIndex := 122, attributes := #[] }])
  fields := #[{ name := "$assertionsDisabled", type := .boolean, accessFlags := 4120, slot := 0, constantValue := 0 }]
  methods := #[k12m0, k12m1, k12m2]
  instanceTypes := #[]
  staticTypes := #[.boolean]
  resolved := Array.replicate 395 none
  statics := none }

def pool13 : Array CpInfo := pool [(2, .class_ 4), (1, u "java/lang/Object"), (0, u "<init>"), (0, u "()V"), (7, .class_ 16), (1, u "java/util/Arrays"), (57, .class_ 76), (1, u "java/util/Arrays$NaturalOrder"), (36, .class_ 115), (1, u "java/util/Arrays$LegacyMergeSort"), (1, u "Z"), (21, u "copyOfRange"), (10, .methodref 151 152), (0, .class_ 153), (0, .nameAndType 154 155), (0, u "java/lang/System"), (0, u "arraycopy"), (0, u "(Ljava/lang/Object;ILjava/lang/Object;II)V"), (148, .methodref 305 306), (0, .class_ 307), (0, .nameAndType 308 309), (0, u "java/lang/Math"), (0, u "min"), (0, u "(II)I"), (29, .methodref 14 340), (0, .nameAndType 341 342), (0, u "copyOfRangeByte"), (0, u "([BII)[B"), (0, .methodref 14 344), (0, .nameAndType 345 346), (0, u "checkLength"), (0, u "(II)V"), (28, .class_ 376), (0, u "java/util/Arrays$ArrayList"), (68, u "$assertionsDisabled"), (269, u "MIN_ARRAY_SORT_GRAN"), (0, u "I"), (2, u "INSERTIONSORT_THRESHOLD"), (255, .class_ 976), (0, u "java/util/Arrays$ArrayItr")] 52

def k13m0 : Method := { name := "<init>", desc := "()V", sig := { parameters := [], returnType := none }, accessFlags := 2, code := none }
def k13c1 : Code := { maxStack := 4, maxLocals := 2, code := jdk_65_method_131_code, exceptionTable := #[], attributes := #[] }
def k13m1 : Method := { name := "checkLength", desc := "(II)V", sig := { parameters := [.int, .int], returnType := none }, accessFlags := 10, code := some k13c1 }
def k13c2 : Code := { maxStack := 3, maxLocals := 3, code := jdk_65_method_132_code, exceptionTable := #[], attributes := #[] }
def k13m2 : Method := { name := "copyOfRange", desc := "([BII)[B", sig := { parameters := [(.array .byte), .int, .int], returnType := some (.array .byte) }, accessFlags := 9, code := some k13c2 }
def k13c3 : Code := { maxStack := 6, maxLocals := 5, code := jdk_65_method_133_code, exceptionTable := #[], attributes := #[] }
def k13m3 : Method := { name := "copyOfRangeByte", desc := "([BII)[B", sig := { parameters := [(.array .byte), .int, .int], returnType := some (.array .byte) }, accessFlags := 10, code := some k13c3 }
/-- java/util/Arrays -/
def k13 : Class := { plain "java/util/Arrays" (some 0) with
  accessFlags := 49
  interfaces := #[]
  cf := some (fileOf pool13 14 #[.nestMembers #[975, 375, 113, 74]] #[{ accessFlags := 2, nameIndex := 5, descriptorIndex := 6, attributes := #[] }, { accessFlags := 10, nameIndex := 345, descriptorIndex := 346, attributes := #[] }, { accessFlags := 9, nameIndex := 139, descriptorIndex := 342, attributes := #[] }, { accessFlags := 10, nameIndex := 341, descriptorIndex := 342, attributes := #[] }] 49 2 #[] #[{ accessFlags := 26, nameIndex := 715, descriptorIndex := 716, attributes := #[] }, { accessFlags := 26, nameIndex := 719, descriptorIndex := 716, attributes := #[] }, { accessFlags := 4120, nameIndex := 445, descriptorIndex := 117, attributes := #[] }])
  fields := #[{ name := "MIN_ARRAY_SORT_GRAN", type := .int, accessFlags := 26, slot := 0, constantValue := 0 }, { name := "INSERTIONSORT_THRESHOLD", type := .int, accessFlags := 26, slot := 1, constantValue := 0 }, { name := "$assertionsDisabled", type := .boolean, accessFlags := 4120, slot := 2, constantValue := 0 }]
  methods := #[k13m0, k13m1, k13m2, k13m3]
  instanceTypes := #[]
  staticTypes := #[.int, .int, .boolean]
  resolved := Array.replicate 1029 none
  statics := none }

def pool14 : Array CpInfo := pool [(1, .class_ 2), (0, u "java/lang/Math"), (1, .class_ 6), (1, u "java/lang/Object"), (0, u "<init>"), (0, u "()V"), (89, .class_ 100), (1, u "java/lang/Math$RandomNumberGeneratorHolder"), (71, u "negativeZeroFloatBits"), (0, u "J"), (2, u "negativeZeroDoubleBits"), (24, u "min"), (43, u "$assertionsDisabled"), (0, u "Z"), (88, u "(II)I"), (2, u "twoToTheDoubleScaleDown"), (0, u "D"), (4, u "twoToTheDoubleScaleUp"), (9, u "E"), (3, u "PI"), (2, u "TAU"), (2, u "DEGREES_TO_RADIANS"), (0, u "RADIANS_TO_DEGREES")] 94

def k14m0 : Method := { name := "<init>", desc := "()V", sig := { parameters := [], returnType := none }, accessFlags := 2, code := none }
def k14c1 : Code := { maxStack := 2, maxLocals := 2, code := jdk_29_method_69_code, exceptionTable := #[], attributes := #[] }
def k14m1 : Method := { name := "min", desc := "(II)I", sig := { parameters := [.int, .int], returnType := some .int }, accessFlags := 9, code := some k14c1 }
/-- java/lang/Math -/
def k14 : Class := { plain "java/lang/Math" (some 0) with
  accessFlags := 49
  interfaces := #[]
  cf := some (fileOf pool14 1 #[.nestMembers #[98]] #[{ accessFlags := 2, nameIndex := 7, descriptorIndex := 8, attributes := #[] }, { accessFlags := 9, nameIndex := 201, descriptorIndex := 335, attributes := #[] }] 49 4 #[] #[{ accessFlags := 25, nameIndex := 354, descriptorIndex := 339, attributes := #[] }, { accessFlags := 25, nameIndex := 358, descriptorIndex := 339, attributes := #[] }, { accessFlags := 25, nameIndex := 361, descriptorIndex := 339, attributes := #[] }, { accessFlags := 26, nameIndex := 364, descriptorIndex := 339, attributes := #[] }, { accessFlags := 26, nameIndex := 365, descriptorIndex := 339, attributes := #[] }, { accessFlags := 26, nameIndex := 172, descriptorIndex := 173, attributes := #[] }, { accessFlags := 26, nameIndex := 176, descriptorIndex := 173, attributes := #[] }, { accessFlags := 8, nameIndex := 344, descriptorIndex := 339, attributes := #[] }, { accessFlags := 8, nameIndex := 338, descriptorIndex := 339, attributes := #[] }, { accessFlags := 4120, nameIndex := 245, descriptorIndex := 246, attributes := #[] }])
  fields := #[{ name := "E", type := .double, accessFlags := 25, slot := 0, constantValue := 0 }, { name := "PI", type := .double, accessFlags := 25, slot := 1, constantValue := 0 }, { name := "TAU", type := .double, accessFlags := 25, slot := 2, constantValue := 0 }, { name := "DEGREES_TO_RADIANS", type := .double, accessFlags := 26, slot := 3, constantValue := 0 }, { name := "RADIANS_TO_DEGREES", type := .double, accessFlags := 26, slot := 4, constantValue := 0 }, { name := "negativeZeroFloatBits", type := .long, accessFlags := 26, slot := 5, constantValue := 0 }, { name := "negativeZeroDoubleBits", type := .long, accessFlags := 26, slot := 6, constantValue := 0 }, { name := "twoToTheDoubleScaleUp", type := .double, accessFlags := 8, slot := 7, constantValue := 0 }, { name := "twoToTheDoubleScaleDown", type := .double, accessFlags := 8, slot := 8, constantValue := 0 }, { name := "$assertionsDisabled", type := .boolean, accessFlags := 4120, slot := 9, constantValue := 0 }]
  methods := #[k14m0, k14m1]
  instanceTypes := #[]
  staticTypes := #[.double, .double, .double, .double, .double, .long, .long, .double, .double, .boolean]
  resolved := Array.replicate 460 none
  statics := none }

def pool15 : Array CpInfo := pool [(2, .class_ 4), (1, u "java/lang/Object"), (0, u "<init>"), (0, u "()V"), (1, .class_ 10), (1, u "java/lang/System"), (0, u "allowSecurityManager"), (0, u "I"), (16, u "cons"), (0, u "Ljava/io/Console;"), (77, .class_ 110), (1, u "java/lang/System$CallersHolder"), (43, u "initialErrStream"), (0, u "Ljava/io/PrintStream;"), (19, u "security"), (0, u "Ljava/lang/SecurityManager;"), (31, .class_ 209), (0, u "java/lang/System$1"), (7, u "props"), (0, u "Ljava/util/Properties;"), (2, u "lineSeparator"), (0, u "Ljava/lang/String;"), (96, .class_ 321), (1, u "java/lang/System$LoggerFinder"), (5, .class_ 328), (0, u "java/lang/System$Logger"), (67, u "err"), (2, u "out"), (91, u "notSupportedJnuEncoding"), (15, u "in"), (17, u "initialIn"), (0, u "Ljava/io/InputStream;"), (35, u "bootLayer"), (0, u "Ljava/lang/ModuleLayer;"), (99, .class_ 664), (0, u "java/lang/System$2"), (9, u "NEVER"), (2, u "MAYBE"), (49, u "arraycopy"), (0, u "(Ljava/lang/Object;ILjava/lang/Object;II)V"), (72, .class_ 802), (0, u "java/lang/System$Logger$Level")] 31

def k15m0 : Method := { name := "<init>", desc := "()V", sig := { parameters := [], returnType := none }, accessFlags := 2, code := none }
def k15m1 : Method := { name := "arraycopy", desc := "(Ljava/lang/Object;ILjava/lang/Object;II)V", sig := { parameters := [(.object "java/lang/Object"), .int, (.object "java/lang/Object"), .int, .int], returnType := none }, accessFlags := 265, code := none }
/-- java/lang/System -/
def k15 : Class := { plain "java/lang/System" (some 0) with
  accessFlags := 49
  interfaces := #[]
  cf := some (fileOf pool15 8 #[.nestMembers #[319, 327, 801, 108, 663, 208]] #[{ accessFlags := 2, nameIndex := 5, descriptorIndex := 6, attributes := #[] }, { accessFlags := 265, nameIndex := 727, descriptorIndex := 728, attributes := #[] }] 49 2 #[] #[{ accessFlags := 25, nameIndex := 507, descriptorIndex := 526, attributes := #[] }, { accessFlags := 25, nameIndex := 399, descriptorIndex := 155, attributes := #[] }, { accessFlags := 25, nameIndex := 396, descriptorIndex := 155, attributes := #[] }, { accessFlags := 10, nameIndex := 525, descriptorIndex := 526, attributes := #[] }, { accessFlags := 26, nameIndex := 674, descriptorIndex := 12, attributes := #[] }, { accessFlags := 26, nameIndex := 677, descriptorIndex := 12, attributes := #[] }, { accessFlags := 10, nameIndex := 11, descriptorIndex := 12, attributes := #[] }, { accessFlags := 74, nameIndex := 175, descriptorIndex := 176, attributes := #[] }, { accessFlags := 10, nameIndex := 491, descriptorIndex := 222, attributes := #[] }, { accessFlags := 74, nameIndex := 29, descriptorIndex := 30, attributes := #[] }, { accessFlags := 74, nameIndex := 154, descriptorIndex := 155, attributes := #[] }, { accessFlags := 10, nameIndex := 217, descriptorIndex := 218, attributes := #[] }, { accessFlags := 10, nameIndex := 221, descriptorIndex := 222, attributes := #[] }, { accessFlags := 8, nameIndex := 562, descriptorIndex := 563, attributes := #[] }])
  fields := #[{ name := "in", type := (.object "java/io/InputStream"), accessFlags := 25, slot := 0, constantValue := 0 }, { name := "out", type := (.object "java/io/PrintStream"), accessFlags := 25, slot := 1, constantValue := 0 }, { name := "err", type := (.object "java/io/PrintStream"), accessFlags := 25, slot := 2, constantValue := 0 }, { name := "initialIn", type := (.object "java/io/InputStream"), accessFlags := 10, slot := 3, constantValue := 0 }, { name := "NEVER", type := .int, accessFlags := 26, slot := 4, constantValue := 0 }, { name := "MAYBE", type := .int, accessFlags := 26, slot := 5, constantValue := 0 }, { name := "allowSecurityManager", type := .int, accessFlags := 10, slot := 6, constantValue := 0 }, { name := "security", type := (.object "java/lang/SecurityManager"), accessFlags := 74, slot := 7, constantValue := 0 }, { name := "notSupportedJnuEncoding", type := (.object "java/lang/String"), accessFlags := 10, slot := 8, constantValue := 0 }, { name := "cons", type := (.object "java/io/Console"), accessFlags := 74, slot := 9, constantValue := 0 }, { name := "initialErrStream", type := (.object "java/io/PrintStream"), accessFlags := 74, slot := 10, constantValue := 0 }, { name := "props", type := (.object "java/util/Properties"), accessFlags := 10, slot := 11, constantValue := 0 }, { name := "lineSeparator", type := (.object "java/lang/String"), accessFlags := 10, slot := 12, constantValue := 0 }, { name := "bootLayer", type := (.object "java/lang/ModuleLayer"), accessFlags := 8, slot := 13, constantValue := 0 }]
  methods := #[k15m0, k15m1]
  instanceTypes := #[]
  staticTypes := #[(.object "java/io/InputStream"), (.object "java/io/PrintStream"), (.object "java/io/PrintStream"), (.object "java/io/InputStream"), .int, .int, .int, (.object "java/lang/SecurityManager"), (.object "java/lang/String"), (.object "java/io/Console"), (.object "java/io/PrintStream"), (.object "java/util/Properties"), (.object "java/lang/String"), (.object "java/lang/ModuleLayer")]
  resolved := Array.replicate 834 none
  statics := none }

def pool16 : Array CpInfo := pool [(9, u "<init>"), (6, .class_ 18), (1, u "java/lang/Object"), (0, u "()V"), (1, .class_ 23), (1, u "jdk/internal/util/ArraysSupport"), (0, u "LOG2_ARRAY_LONG_INDEX_SCALE"), (0, u "I"), (2, u "U"), (0, u "Ljdk/internal/misc/Unsafe;"), (8, u "BIG_ENDIAN"), (0, u "Z"), (8, u "LOG2_BYTE_BIT_SIZE"), (4, u "LOG2_ARRAY_INT_INDEX_SCALE"), (54, u "JLA"), (0, u "Ljdk/internal/access/JavaLangAccess;"), (11, u "LOG2_ARRAY_BOOLEAN_INDEX_SCALE"), (9, u "LOG2_ARRAY_BYTE_INDEX_SCALE"), (5, u "LOG2_ARRAY_CHAR_INDEX_SCALE"), (5, u "LOG2_ARRAY_SHORT_INDEX_SCALE"), (18, u "LOG2_ARRAY_FLOAT_INDEX_SCALE"), (24, u "LOG2_ARRAY_DOUBLE_INDEX_SCALE"), (89, u "T_BOOLEAN"), (2, u "T_CHAR"), (1, u "T_FLOAT"), (1, u "T_DOUBLE"), (1, u "T_BYTE"), (1, u "T_SHORT"), (1, u "T_INT"), (1, u "T_LONG"), (1, u "SOFT_MAX_ARRAY_LENGTH")] 83

def k16m0 : Method := { name := "<init>", desc := "()V", sig := { parameters := [], returnType := none }, accessFlags := 2, code := none }
/-- jdk/internal/util/ArraysSupport -/
def k16 : Class := { plain "jdk/internal/util/ArraysSupport" (some 0) with
  accessFlags := 33
  interfaces := #[]
  cf := some (fileOf pool16 21 #[] #[{ accessFlags := 2, nameIndex := 9, descriptorIndex := 19, attributes := #[] }] 33 16 #[] #[{ accessFlags := 24, nameIndex := 28, descriptorIndex := 29, attributes := #[] }, { accessFlags := 26, nameIndex := 38, descriptorIndex := 39, attributes := #[] }, { accessFlags := 25, nameIndex := 121, descriptorIndex := 25, attributes := #[] }, { accessFlags := 25, nameIndex := 131, descriptorIndex := 25, attributes := #[] }, { accessFlags := 25, nameIndex := 137, descriptorIndex := 25, attributes := #[] }, { accessFlags := 25, nameIndex := 143, descriptorIndex := 25, attributes := #[] }, { accessFlags := 25, nameIndex := 53, descriptorIndex := 25, attributes := #[] }, { accessFlags := 25, nameIndex := 24, descriptorIndex := 25, attributes := #[] }, { accessFlags := 25, nameIndex := 162, descriptorIndex := 25, attributes := #[] }, { accessFlags := 25, nameIndex := 187, descriptorIndex := 25, attributes := #[] }, { accessFlags := 26, nameIndex := 48, descriptorIndex := 25, attributes := #[] }, { accessFlags := 25, nameIndex := 277, descriptorIndex := 25, attributes := #[] }, { accessFlags := 25, nameIndex := 280, descriptorIndex := 25, attributes := #[] }, { accessFlags := 25, nameIndex := 282, descriptorIndex := 25, attributes := #[] }, { accessFlags := 25, nameIndex := 284, descriptorIndex := 25, attributes := #[] }, { accessFlags := 25, nameIndex := 286, descriptorIndex := 25, attributes := #[] }, { accessFlags := 25, nameIndex := 288, descriptorIndex := 25, attributes := #[] }, { accessFlags := 25, nameIndex := 290, descriptorIndex := 25, attributes := #[] }, { accessFlags := 25, nameIndex := 292, descriptorIndex := 25, attributes := #[] }, { accessFlags := 26, nameIndex := 108, descriptorIndex := 109, attributes := #[] }, { accessFlags := 25, nameIndex := 294, descriptorIndex := 25, attributes := #[] }])
  fields := #[{ name := "U", type := (.object "jdk/internal/misc/Unsafe"), accessFlags := 24, slot := 0, constantValue := 0 }, { name := "BIG_ENDIAN", type := .boolean, accessFlags := 26, slot := 1, constantValue := 0 }, { name := "LOG2_ARRAY_BOOLEAN_INDEX_SCALE", type := .int, accessFlags := 25, slot := 2, constantValue := 0 }, { name := "LOG2_ARRAY_BYTE_INDEX_SCALE", type := .int, accessFlags := 25, slot := 3, constantValue := 0 }, { name := "LOG2_ARRAY_CHAR_INDEX_SCALE", type := .int, accessFlags := 25, slot := 4, constantValue := 0 }, { name := "LOG2_ARRAY_SHORT_INDEX_SCALE", type := .int, accessFlags := 25, slot := 5, constantValue := 0 }, { name := "LOG2_ARRAY_INT_INDEX_SCALE", type := .int, accessFlags := 25, slot := 6, constantValue := 0 }, { name := "LOG2_ARRAY_LONG_INDEX_SCALE", type := .int, accessFlags := 25, slot := 7, constantValue := 0 }, { name := "LOG2_ARRAY_FLOAT_INDEX_SCALE", type := .int, accessFlags := 25, slot := 8, constantValue := 0 }, { name := "LOG2_ARRAY_DOUBLE_INDEX_SCALE", type := .int, accessFlags := 25, slot := 9, constantValue := 0 }, { name := "LOG2_BYTE_BIT_SIZE", type := .int, accessFlags := 26, slot := 10, constantValue := 0 }, { name := "T_BOOLEAN", type := .int, accessFlags := 25, slot := 11, constantValue := 0 }, { name := "T_CHAR", type := .int, accessFlags := 25, slot := 12, constantValue := 0 }, { name := "T_FLOAT", type := .int, accessFlags := 25, slot := 13, constantValue := 0 }, { name := "T_DOUBLE", type := .int, accessFlags := 25, slot := 14, constantValue := 0 }, { name := "T_BYTE", type := .int, accessFlags := 25, slot := 15, constantValue := 0 }, { name := "T_SHORT", type := .int, accessFlags := 25, slot := 16, constantValue := 0 }, { name := "T_INT", type := .int, accessFlags := 25, slot := 17, constantValue := 0 }, { name := "T_LONG", type := .int, accessFlags := 25, slot := 18, constantValue := 0 }, { name := "JLA", type := (.object "jdk/internal/access/JavaLangAccess"), accessFlags := 26, slot := 19, constantValue := 0 }, { name := "SOFT_MAX_ARRAY_LENGTH", type := .int, accessFlags := 25, slot := 20, constantValue := 0 }]
  methods := #[k16m0]
  instanceTypes := #[]
  staticTypes := #[(.object "jdk/internal/misc/Unsafe"), .boolean, .int, .int, .int, .int, .int, .int, .int, .int, .int, .int, .int, .int, .int, .int, .int, .int, .int, (.object "jdk/internal/access/JavaLangAccess"), .int]
  resolved := Array.replicate 378 none
  statics := none }

def pool17 : Array CpInfo := pool [(1, u "java/lang/Cloneable"), (0, .class_ 1), (0, u "java/lang/Object"), (0, .class_ 3)] 3

/-- java/lang/Cloneable -/
def k17 : Class := { plain "java/lang/Cloneable" (some 0) with
  accessFlags := 1537
  interfaces := #[]
  cf := some (fileOf pool17 2 #[] #[] 1537 4 #[] #[])
  fields := #[]
  methods := #[]
  instanceTypes := #[]
  staticTypes := #[]
  resolved := Array.replicate 8 none
  statics := none }

/-- the primitive byte -/
def k18 : Class := { plain "byte" none with kind := .primitive 'B', accessFlags := 0x411 }
/-- [B -/
def k19 : Class := { plain "[B" (some 0) with kind := .array 18 .byte, interfaces := #[17, 2], accessFlags := 1041 }

/-- the primitive char -/
def k20 : Class := { plain "char" none with kind := .primitive 'C', accessFlags := 0x411 }
/-- [C -/
def k21 : Class := { plain "[C" (some 0) with kind := .array 20 .char, interfaces := #[17, 2], accessFlags := 1041 }

/-- the primitive int -/
def k22 : Class := { plain "int" none with kind := .primitive 'I', accessFlags := 0x411 }
/-- [I -/
def k23 : Class := { plain "[I" (some 0) with kind := .array 22 .int, interfaces := #[17, 2], accessFlags := 1041 }

def heap : Heap := #[{ cls := 7, slots := #[.long 0, .int 1, .null, .int 0, .null, .int 0, .int 0], vm := .statics 7 },
  { cls := 8, slots := #[.int 0, .int 8, .int 0, .int 1], vm := .statics 8 },
  { cls := 11, slots := #[.null, .null, .null], vm := .statics 11 }]
def classes : Array Class := #[k0, k1, k2, k3, k4, k5, k6, k7, k8, k9, k10, k11, k12, k13, k14, k15, k16, k17, k18, k19, k20, k21, k22, k23]
def interned : List (Array UInt16 × Addr) := []
def slotsUsed : Nat := 14
def theMethod : MethodId := ⟨1, 1⟩
def args0 : Array Value := #[.int 97, .int 98, .int 3, .int 2, .int 1, .int 0]
def aboutOver (below : List Frame) : State where
  vm := { classes := classes, interned := interned.toArray }
  heap := heap
  slotsUsed := slotsUsed
  threads := #[{ frames := .invoking theMethod args0 :: below }]
def below0 : List Frame := [.native { method := ⟨0, 0⟩, args := #[] }]
def about1 : State := aboutOver below0
def p0 : Program := .bare "" "" ""
def e0 : Env := launch0.env 0 0 0
theorem w_frames : about1.frames = Frame.invoking theMethod args0 :: below0 := rfl
set_option maxRecDepth 65536 in
theorem w_args : argsFit about1.vm theMethod args0 = true := by decide +kernel
set_option maxRecDepth 65536 in
theorem w_heap : heapFits about1 = true := by decide +kernel
set_option maxRecDepth 65536 in
theorem w_runnable : about1.curStatus? = some .runnable := by decide +kernel
set_option maxRecDepth 65536 in
theorem w_alone : about1.alone = true := by decide +kernel
set_option maxRecDepth 65536 in
theorem w_named : about1.methodNamed? x = some theMethod := by decide +kernel
set_option maxRecDepth 65536 in
theorem w_hears : about1.hears theMethod below0 = true := by decide +kernel
set_option maxRecDepth 65536 in
theorem w_ripe : about1.ripe theMethod args0 below0 = true := by decide +kernel
theorem w_running : about1.status = .running := rfl
set_option maxRecDepth 65536 in
theorem w_room : about1.hasRoom e0.platform room_1 = true :=
  launch0.hasRoom_least _ room_1 (by decide +kernel) (by decide +kernel) (by decide +kernel) (by decide +kernel) (by decide +kernel) (by decide +kernel)
theorem allAtoms_all (ts : List Jvm.Cond) (a : Array Jvm.Value) (st : Jvm.State) : (allAtoms ts).before a st = ts.all (fun c => c.before a st) := by
  induction ts with
  | nil => rfl
  | cons c t ih =>
    show (Jvm.Cond.and c (allAtoms t)).before a st = _
    rw [Jvm.Cond.before_and, ih, List.all_cons]
def words1 : List Jvm.Cond := Jvm.Cond.code x code maxLocals ret :: tables_1
/-- a 'code' word, met by the world's own term for the bytes: nothing is compared byte by byte -/
theorem code_word {y : MethodName} {bytes : ByteArray} {mx : Nat} {rt : Option FieldType} {a : Array Value} {s : State} {m : MethodId} {meth : Method} {c : Code} (h1 : s.methodNamed? y = some m) (h2 : s.vm.method? m = some meth) (h3 : meth.code = some c) (h4 : c.code = bytes)
    (h5 : (c.maxLocals == mx && c.exceptionTable.isEmpty && decide (c.maxStack ≤ mostOperands) && decide (meth.sig.returnType = rt) && !meth.locks && decide (parseMethodDescriptor y.desc = some meth.sig)) = true) : (Jvm.Cond.code y bytes mx rt).before a s = true := by
  simp only [Bool.and_eq_true, beq_iff_eq, Bool.not_eq_true', decide_eq_true_eq] at h5
  obtain ⟨⟨⟨⟨⟨g1, g2⟩, g3⟩, g4⟩, g5⟩, g6⟩ := h5
  simp [Cond.before, Cond.holds, Cond.value, h1, h2, h3, h4, g1, g2, g3, g4, g5, g6]
def isCode : Jvm.Cond → Bool
  | .code _ _ _ _ => true
  | _ => false
theorem all_split {L : List Jvm.Cond} {P : Jvm.Cond → Bool} (h1 : L.all (fun c => isCode c || P c) = true) (h2 : ∀ c ∈ L.filter isCode, P c = true) : L.all P = true := by
  refine List.all_eq_true.mpr fun c hc => ?_
  have h := List.all_eq_true.mp h1 c hc
  rcases Bool.eq_false_or_eq_true (isCode c) with hi | hi
  · exact h2 c (List.mem_filter.mpr ⟨hc, hi⟩)
  · simpa [hi] using h
set_option maxRecDepth 65536 in
theorem w_c0 : (Jvm.Cond.code x code maxLocals ret).before args0 about1 = true := code_word (m := ⟨1, 1⟩) (meth := k1m1) (c := k1c1) (by decide +kernel) rfl rfl rfl (by decide +kernel)
set_option maxRecDepth 65536 in
theorem w_c1 : (Jvm.Cond.code ({ cls := "java/lang/String", name := "<init>", desc := "([C)V" } : Jvm.MethodName) jdk_42_method_3_code (2 : Nat) (Option.none : Option Jvm.ClassFile.FieldType)).before args0 about1 = true := code_word (m := ⟨7, 1⟩) (meth := k7m1) (c := k7c1) (by decide +kernel) rfl rfl rfl (by decide +kernel)
set_option maxRecDepth 65536 in
theorem w_c2 : (Jvm.Cond.code ({ cls := "java/lang/String", name := "<init>", desc := "([CIILjava/lang/Void;)V" } : Jvm.MethodName) jdk_42_method_149_code (6 : Nat) (Option.none : Option Jvm.ClassFile.FieldType)).before args0 about1 = true := code_word (m := ⟨7, 5⟩) (meth := k7m5) (c := k7c5) (by decide +kernel) rfl rfl rfl (by decide +kernel)
set_option maxRecDepth 65536 in
theorem w_c3 : (Jvm.Cond.code ({ cls := "java/lang/Object", name := "<init>", desc := "()V" } : Jvm.MethodName) object_method_1_code (1 : Nat) (Option.none : Option Jvm.ClassFile.FieldType)).before args0 about1 = true := code_word (m := ⟨0, 0⟩) (meth := k0m0) (c := k0c0) (by decide +kernel) rfl rfl rfl (by decide +kernel)
set_option maxRecDepth 65536 in
theorem w_c4 : (Jvm.Cond.code ({ cls := "java/lang/StringUTF16", name := "compress", desc := "([CII)[B" } : Jvm.MethodName) jdk_52_method_16_code (6 : Nat) (Option.some (Jvm.ClassFile.FieldType.array Jvm.ClassFile.FieldType.byte))).before args0 about1 = true := code_word (m := ⟨8, 8⟩) (meth := k8m8) (c := k8c8) (by decide +kernel) rfl rfl rfl (by decide +kernel)
set_option maxRecDepth 65536 in
theorem w_c5 : (Jvm.Cond.code ({ cls := "java/lang/StringUTF16", name := "compress", desc := "([CI[BII)I" } : Jvm.MethodName) jdk_52_method_21_code (7 : Nat) (Option.some Jvm.ClassFile.FieldType.int)).before args0 about1 = true := code_word (m := ⟨8, 10⟩) (meth := k8m10) (c := k8c10) (by decide +kernel) rfl rfl rfl (by decide +kernel)
set_option maxRecDepth 65536 in
theorem w_c6 : (Jvm.Cond.code ({ cls := "java/lang/StringUTF16", name := "coderFromArrayLen", desc := "([BI)B" } : Jvm.MethodName) jdk_52_method_15_code (2 : Nat) (Option.some Jvm.ClassFile.FieldType.byte)).before args0 about1 = true := code_word (m := ⟨8, 7⟩) (meth := k8m7) (c := k8c7) (by decide +kernel) rfl rfl rfl (by decide +kernel)
set_option maxRecDepth 65536 in
theorem w_c7 : (Jvm.Cond.code ({ cls := "com/example/rulr/rulr/policy/SqlCondition$Membership", name := "<init>", desc := "(Ljava/lang/String;Ljava/lang/String;Lcom/example/rulr/rulr/policy/SqlCondition$Span;IZI)V" } : Jvm.MethodName) prog_56_method_1_code (7 : Nat) (Option.none : Option Jvm.ClassFile.FieldType)).before args0 about1 = true := code_word (m := ⟨10, 0⟩) (meth := k10m0) (c := k10c0) (by decide +kernel) rfl rfl rfl (by decide +kernel)
set_option maxRecDepth 65536 in
theorem w_c8 : (Jvm.Cond.code ({ cls := "java/lang/Record", name := "<init>", desc := "()V" } : Jvm.MethodName) jdk_30_method_1_code (1 : Nat) (Option.none : Option Jvm.ClassFile.FieldType)).before args0 about1 = true := code_word (m := ⟨9, 0⟩) (meth := k9m0) (c := k9c0) (by decide +kernel) rfl rfl rfl (by decide +kernel)
set_option maxRecDepth 65536 in
theorem w_c9 : (Jvm.Cond.code ({ cls := "com/example/rulr/rulr/policy/SqlCondition$Membership", name := "selection", desc := "()Ljava/lang/String;" } : Jvm.MethodName) prog_56_method_4_code (1 : Nat) (Option.some (Jvm.ClassFile.FieldType.object "java/lang/String"))).before args0 about1 = true := code_word (m := ⟨10, 1⟩) (meth := k10m1) (c := k10c1) (by decide +kernel) rfl rfl rfl (by decide +kernel)
set_option maxRecDepth 65536 in
theorem w_c10 : (Jvm.Cond.code ({ cls := "java/lang/String", name := "substring", desc := "(II)Ljava/lang/String;" } : Jvm.MethodName) jdk_42_method_92_code (5 : Nat) (Option.some (Jvm.ClassFile.FieldType.object "java/lang/String"))).before args0 about1 = true := code_word (m := ⟨7, 4⟩) (meth := k7m4) (c := k7c4) (by decide +kernel) rfl rfl rfl (by decide +kernel)
set_option maxRecDepth 65536 in
theorem w_c11 : (Jvm.Cond.code ({ cls := "java/lang/String", name := "length", desc := "()I" } : Jvm.MethodName) jdk_42_method_54_code (1 : Nat) (Option.some Jvm.ClassFile.FieldType.int)).before args0 about1 = true := code_word (m := ⟨7, 2⟩) (meth := k7m2) (c := k7c2) (by decide +kernel) rfl rfl rfl (by decide +kernel)
set_option maxRecDepth 65536 in
theorem w_c12 : (Jvm.Cond.code ({ cls := "java/lang/String", name := "coder", desc := "()B" } : Jvm.MethodName) jdk_42_method_152_code (1 : Nat) (Option.some Jvm.ClassFile.FieldType.byte)).before args0 about1 = true := code_word (m := ⟨7, 7⟩) (meth := k7m7) (c := k7c7) (by decide +kernel) rfl rfl rfl (by decide +kernel)
set_option maxRecDepth 65536 in
theorem w_c13 : (Jvm.Cond.code ({ cls := "java/lang/String", name := "checkBoundsBeginEnd", desc := "(III)V" } : Jvm.MethodName) jdk_42_method_158_code (3 : Nat) (Option.none : Option Jvm.ClassFile.FieldType)).before args0 about1 = true := code_word (m := ⟨7, 11⟩) (meth := k7m11) (c := k7c11) (by decide +kernel) rfl rfl rfl (by decide +kernel)
set_option maxRecDepth 65536 in
theorem w_c14 : (Jvm.Cond.code ({ cls := "jdk/internal/util/Preconditions", name := "checkFromToIndex", desc := "(IIILjava/util/function/BiFunction;)I" } : Jvm.MethodName) jdk_41_method_12_code (4 : Nat) (Option.some Jvm.ClassFile.FieldType.int)).before args0 about1 = true := code_word (m := ⟨11, 2⟩) (meth := k11m2) (c := k11c2) (by decide +kernel) rfl rfl rfl (by decide +kernel)
set_option maxRecDepth 65536 in
theorem w_c15 : (Jvm.Cond.code ({ cls := "java/lang/String", name := "isLatin1", desc := "()Z" } : Jvm.MethodName) jdk_42_method_154_code (1 : Nat) (Option.some Jvm.ClassFile.FieldType.boolean)).before args0 about1 = true := code_word (m := ⟨7, 8⟩) (meth := k7m8) (c := k7c8) (by decide +kernel) rfl rfl rfl (by decide +kernel)
set_option maxRecDepth 65536 in
theorem w_c16 : (Jvm.Cond.code ({ cls := "java/lang/StringLatin1", name := "newString", desc := "([BII)Ljava/lang/String;" } : Jvm.MethodName) jdk_43_method_47_code (3 : Nat) (Option.some (Jvm.ClassFile.FieldType.object "java/lang/String"))).before args0 about1 = true := code_word (m := ⟨12, 2⟩) (meth := k12m2) (c := k12c2) (by decide +kernel) rfl rfl rfl (by decide +kernel)
set_option maxRecDepth 65536 in
theorem w_c17 : (Jvm.Cond.code ({ cls := "java/util/Arrays", name := "copyOfRange", desc := "([BII)[B" } : Jvm.MethodName) jdk_65_method_132_code (3 : Nat) (Option.some (Jvm.ClassFile.FieldType.array Jvm.ClassFile.FieldType.byte))).before args0 about1 = true := code_word (m := ⟨13, 2⟩) (meth := k13m2) (c := k13c2) (by decide +kernel) rfl rfl rfl (by decide +kernel)
set_option maxRecDepth 65536 in
theorem w_c18 : (Jvm.Cond.code ({ cls := "java/util/Arrays", name := "copyOfRangeByte", desc := "([BII)[B" } : Jvm.MethodName) jdk_65_method_133_code (5 : Nat) (Option.some (Jvm.ClassFile.FieldType.array Jvm.ClassFile.FieldType.byte))).before args0 about1 = true := code_word (m := ⟨13, 3⟩) (meth := k13m3) (c := k13c3) (by decide +kernel) rfl rfl rfl (by decide +kernel)
set_option maxRecDepth 65536 in
theorem w_c19 : (Jvm.Cond.code ({ cls := "java/util/Arrays", name := "checkLength", desc := "(II)V" } : Jvm.MethodName) jdk_65_method_131_code (2 : Nat) (Option.none : Option Jvm.ClassFile.FieldType)).before args0 about1 = true := code_word (m := ⟨13, 1⟩) (meth := k13m1) (c := k13c1) (by decide +kernel) rfl rfl rfl (by decide +kernel)
set_option maxRecDepth 65536 in
theorem w_c20 : (Jvm.Cond.code ({ cls := "java/lang/Math", name := "min", desc := "(II)I" } : Jvm.MethodName) jdk_29_method_69_code (2 : Nat) (Option.some Jvm.ClassFile.FieldType.int)).before args0 about1 = true := code_word (m := ⟨14, 1⟩) (meth := k14m1) (c := k14c1) (by decide +kernel) rfl rfl rfl (by decide +kernel)
set_option maxRecDepth 65536 in
theorem w_c21 : (Jvm.Cond.code ({ cls := "java/lang/String", name := "<init>", desc := "([BB)V" } : Jvm.MethodName) jdk_42_method_151_code (3 : Nat) (Option.none : Option Jvm.ClassFile.FieldType)).before args0 about1 = true := code_word (m := ⟨7, 6⟩) (meth := k7m6) (c := k7c6) (by decide +kernel) rfl rfl rfl (by decide +kernel)
set_option maxRecDepth 65536 in
theorem w_c22 : (Jvm.Cond.code ({ cls := "java/lang/String", name := "charAt", desc := "(I)C" } : Jvm.MethodName) jdk_42_method_56_code (2 : Nat) (Option.some Jvm.ClassFile.FieldType.char)).before args0 about1 = true := code_word (m := ⟨7, 3⟩) (meth := k7m3) (c := k7c3) (by decide +kernel) rfl rfl rfl (by decide +kernel)
set_option maxRecDepth 65536 in
theorem w_c23 : (Jvm.Cond.code ({ cls := "java/lang/StringLatin1", name := "charAt", desc := "([BI)C" } : Jvm.MethodName) jdk_43_method_2_code (2 : Nat) (Option.some Jvm.ClassFile.FieldType.char)).before args0 about1 = true := code_word (m := ⟨12, 1⟩) (meth := k12m1) (c := k12c1) (by decide +kernel) rfl rfl rfl (by decide +kernel)
set_option maxRecDepth 65536 in
theorem w_c24 : (Jvm.Cond.code ({ cls := "java/lang/String", name := "checkIndex", desc := "(II)V" } : Jvm.MethodName) jdk_42_method_155_code (2 : Nat) (Option.none : Option Jvm.ClassFile.FieldType)).before args0 about1 = true := code_word (m := ⟨7, 9⟩) (meth := k7m9) (c := k7c9) (by decide +kernel) rfl rfl rfl (by decide +kernel)
set_option maxRecDepth 65536 in
theorem w_c25 : (Jvm.Cond.code ({ cls := "jdk/internal/util/Preconditions", name := "checkIndex", desc := "(IILjava/util/function/BiFunction;)I" } : Jvm.MethodName) jdk_41_method_11_code (3 : Nat) (Option.some Jvm.ClassFile.FieldType.int)).before args0 about1 = true := code_word (m := ⟨11, 1⟩) (meth := k11m1) (c := k11c1) (by decide +kernel) rfl rfl rfl (by decide +kernel)
set_option maxRecDepth 65536 in
theorem w_c26 : (Jvm.Cond.code ({ cls := "java/lang/StringUTF16", name := "toBytes", desc := "([CII)[B" } : Jvm.MethodName) jdk_52_method_14_code (5 : Nat) (Option.some (Jvm.ClassFile.FieldType.array Jvm.ClassFile.FieldType.byte))).before args0 about1 = true := code_word (m := ⟨8, 6⟩) (meth := k8m6) (c := k8c6) (by decide +kernel) rfl rfl rfl (by decide +kernel)
set_option maxRecDepth 65536 in
theorem w_c27 : (Jvm.Cond.code ({ cls := "java/lang/StringUTF16", name := "newBytesFor", desc := "(I)[B" } : Jvm.MethodName) jdk_52_method_2_code (1 : Nat) (Option.some (Jvm.ClassFile.FieldType.array Jvm.ClassFile.FieldType.byte))).before args0 about1 = true := code_word (m := ⟨8, 1⟩) (meth := k8m1) (c := k8c1) (by decide +kernel) rfl rfl rfl (by decide +kernel)
set_option maxRecDepth 65536 in
theorem w_c28 : (Jvm.Cond.code ({ cls := "java/lang/StringUTF16", name := "newBytesLength", desc := "(I)I" } : Jvm.MethodName) jdk_52_method_3_code (1 : Nat) (Option.some Jvm.ClassFile.FieldType.int)).before args0 about1 = true := code_word (m := ⟨8, 2⟩) (meth := k8m2) (c := k8c2) (by decide +kernel) rfl rfl rfl (by decide +kernel)
set_option maxRecDepth 65536 in
theorem w_c29 : (Jvm.Cond.code ({ cls := "java/lang/StringUTF16", name := "putChar", desc := "([BII)V" } : Jvm.MethodName) jdk_52_method_4_code (3 : Nat) (Option.none : Option Jvm.ClassFile.FieldType)).before args0 about1 = true := code_word (m := ⟨8, 3⟩) (meth := k8m3) (c := k8c3) (by decide +kernel) rfl rfl rfl (by decide +kernel)
set_option maxRecDepth 65536 in
theorem w_c30 : (Jvm.Cond.code ({ cls := "java/lang/StringUTF16", name := "getChar", desc := "([BI)C" } : Jvm.MethodName) jdk_52_method_5_code (2 : Nat) (Option.some Jvm.ClassFile.FieldType.char)).before args0 about1 = true := code_word (m := ⟨8, 4⟩) (meth := k8m4) (c := k8c4) (by decide +kernel) rfl rfl rfl (by decide +kernel)
set_option maxRecDepth 65536 in
theorem w_c31 : (Jvm.Cond.code ({ cls := "java/lang/StringUTF16", name := "charAt", desc := "([BI)C" } : Jvm.MethodName) jdk_52_method_83_code (2 : Nat) (Option.some Jvm.ClassFile.FieldType.char)).before args0 about1 = true := code_word (m := ⟨8, 13⟩) (meth := k8m13) (c := k8c13) (by decide +kernel) rfl rfl rfl (by decide +kernel)
set_option maxRecDepth 65536 in
theorem w_c32 : (Jvm.Cond.code ({ cls := "java/lang/StringUTF16", name := "checkIndex", desc := "(I[B)V" } : Jvm.MethodName) jdk_52_method_91_code (2 : Nat) (Option.none : Option Jvm.ClassFile.FieldType)).before args0 about1 = true := code_word (m := ⟨8, 14⟩) (meth := k8m14) (c := k8c14) (by decide +kernel) rfl rfl rfl (by decide +kernel)
set_option maxRecDepth 65536 in
theorem w_c33 : (Jvm.Cond.code ({ cls := "java/lang/StringUTF16", name := "length", desc := "([B)I" } : Jvm.MethodName) jdk_52_method_6_code (1 : Nat) (Option.some Jvm.ClassFile.FieldType.int)).before args0 about1 = true := code_word (m := ⟨8, 5⟩) (meth := k8m5) (c := k8c5) (by decide +kernel) rfl rfl rfl (by decide +kernel)
set_option maxRecDepth 65536 in
theorem w_c34 : (Jvm.Cond.code ({ cls := "java/lang/StringUTF16", name := "newString", desc := "([BII)Ljava/lang/String;" } : Jvm.MethodName) jdk_52_method_69_code (5 : Nat) (Option.some (Jvm.ClassFile.FieldType.object "java/lang/String"))).before args0 about1 = true := code_word (m := ⟨8, 12⟩) (meth := k8m12) (c := k8c12) (by decide +kernel) rfl rfl rfl (by decide +kernel)
set_option maxRecDepth 65536 in
theorem w_c35 : (Jvm.Cond.code ({ cls := "java/lang/StringUTF16", name := "compress", desc := "([BII)[B" } : Jvm.MethodName) jdk_52_method_17_code (6 : Nat) (Option.some (Jvm.ClassFile.FieldType.array Jvm.ClassFile.FieldType.byte))).before args0 about1 = true := code_word (m := ⟨8, 9⟩) (meth := k8m9) (c := k8c9) (by decide +kernel) rfl rfl rfl (by decide +kernel)
set_option maxRecDepth 65536 in
theorem w_c36 : (Jvm.Cond.code ({ cls := "java/lang/StringUTF16", name := "compress", desc := "([BI[BII)I" } : Jvm.MethodName) jdk_52_method_22_code (7 : Nat) (Option.some Jvm.ClassFile.FieldType.int)).before args0 about1 = true := code_word (m := ⟨8, 11⟩) (meth := k8m11) (c := k8c11) (by decide +kernel) rfl rfl rfl (by decide +kernel)
set_option maxRecDepth 65536 in
theorem w_c37 : (Jvm.Cond.code ({ cls := "java/lang/StringUTF16", name := "checkBoundsOffCount", desc := "(II[B)V" } : Jvm.MethodName) jdk_52_method_94_code (3 : Nat) (Option.none : Option Jvm.ClassFile.FieldType)).before args0 about1 = true := code_word (m := ⟨8, 15⟩) (meth := k8m15) (c := k8c15) (by decide +kernel) rfl rfl rfl (by decide +kernel)
set_option maxRecDepth 65536 in
theorem w_c38 : (Jvm.Cond.code ({ cls := "java/lang/String", name := "checkBoundsOffCount", desc := "(III)I" } : Jvm.MethodName) jdk_42_method_157_code (3 : Nat) (Option.some Jvm.ClassFile.FieldType.int)).before args0 about1 = true := code_word (m := ⟨7, 10⟩) (meth := k7m10) (c := k7c10) (by decide +kernel) rfl rfl rfl (by decide +kernel)
set_option maxRecDepth 65536 in
theorem w_c39 : (Jvm.Cond.code ({ cls := "jdk/internal/util/Preconditions", name := "checkFromIndexSize", desc := "(IIILjava/util/function/BiFunction;)I" } : Jvm.MethodName) jdk_41_method_13_code (4 : Nat) (Option.some Jvm.ClassFile.FieldType.int)).before args0 about1 = true := code_word (m := ⟨11, 3⟩) (meth := k11m3) (c := k11c3) (by decide +kernel) rfl rfl rfl (by decide +kernel)
def codes1 : List Jvm.Cond := [Jvm.Cond.code x code maxLocals ret, Jvm.Cond.code ({ cls := "java/lang/String", name := "<init>", desc := "([C)V" } : Jvm.MethodName) jdk_42_method_3_code (2 : Nat) (Option.none : Option Jvm.ClassFile.FieldType), Jvm.Cond.code ({ cls := "java/lang/String", name := "<init>", desc := "([CIILjava/lang/Void;)V" } : Jvm.MethodName) jdk_42_method_149_code (6 : Nat) (Option.none : Option Jvm.ClassFile.FieldType), Jvm.Cond.code ({ cls := "java/lang/Object", name := "<init>", desc := "()V" } : Jvm.MethodName) object_method_1_code (1 : Nat) (Option.none : Option Jvm.ClassFile.FieldType), Jvm.Cond.code ({ cls := "java/lang/StringUTF16", name := "compress", desc := "([CII)[B" } : Jvm.MethodName) jdk_52_method_16_code (6 : Nat) (Option.some (Jvm.ClassFile.FieldType.array Jvm.ClassFile.FieldType.byte)), Jvm.Cond.code ({ cls := "java/lang/StringUTF16", name := "compress", desc := "([CI[BII)I" } : Jvm.MethodName) jdk_52_method_21_code (7 : Nat) (Option.some Jvm.ClassFile.FieldType.int), Jvm.Cond.code ({ cls := "java/lang/StringUTF16", name := "coderFromArrayLen", desc := "([BI)B" } : Jvm.MethodName) jdk_52_method_15_code (2 : Nat) (Option.some Jvm.ClassFile.FieldType.byte), Jvm.Cond.code ({ cls := "com/example/rulr/rulr/policy/SqlCondition$Membership", name := "<init>", desc := "(Ljava/lang/String;Ljava/lang/String;Lcom/example/rulr/rulr/policy/SqlCondition$Span;IZI)V" } : Jvm.MethodName) prog_56_method_1_code (7 : Nat) (Option.none : Option Jvm.ClassFile.FieldType), Jvm.Cond.code ({ cls := "java/lang/Record", name := "<init>", desc := "()V" } : Jvm.MethodName) jdk_30_method_1_code (1 : Nat) (Option.none : Option Jvm.ClassFile.FieldType), Jvm.Cond.code ({ cls := "com/example/rulr/rulr/policy/SqlCondition$Membership", name := "selection", desc := "()Ljava/lang/String;" } : Jvm.MethodName) prog_56_method_4_code (1 : Nat) (Option.some (Jvm.ClassFile.FieldType.object "java/lang/String")), Jvm.Cond.code ({ cls := "java/lang/String", name := "substring", desc := "(II)Ljava/lang/String;" } : Jvm.MethodName) jdk_42_method_92_code (5 : Nat) (Option.some (Jvm.ClassFile.FieldType.object "java/lang/String")), Jvm.Cond.code ({ cls := "java/lang/String", name := "length", desc := "()I" } : Jvm.MethodName) jdk_42_method_54_code (1 : Nat) (Option.some Jvm.ClassFile.FieldType.int), Jvm.Cond.code ({ cls := "java/lang/String", name := "coder", desc := "()B" } : Jvm.MethodName) jdk_42_method_152_code (1 : Nat) (Option.some Jvm.ClassFile.FieldType.byte), Jvm.Cond.code ({ cls := "java/lang/String", name := "checkBoundsBeginEnd", desc := "(III)V" } : Jvm.MethodName) jdk_42_method_158_code (3 : Nat) (Option.none : Option Jvm.ClassFile.FieldType), Jvm.Cond.code ({ cls := "jdk/internal/util/Preconditions", name := "checkFromToIndex", desc := "(IIILjava/util/function/BiFunction;)I" } : Jvm.MethodName) jdk_41_method_12_code (4 : Nat) (Option.some Jvm.ClassFile.FieldType.int), Jvm.Cond.code ({ cls := "java/lang/String", name := "isLatin1", desc := "()Z" } : Jvm.MethodName) jdk_42_method_154_code (1 : Nat) (Option.some Jvm.ClassFile.FieldType.boolean), Jvm.Cond.code ({ cls := "java/lang/StringLatin1", name := "newString", desc := "([BII)Ljava/lang/String;" } : Jvm.MethodName) jdk_43_method_47_code (3 : Nat) (Option.some (Jvm.ClassFile.FieldType.object "java/lang/String")), Jvm.Cond.code ({ cls := "java/util/Arrays", name := "copyOfRange", desc := "([BII)[B" } : Jvm.MethodName) jdk_65_method_132_code (3 : Nat) (Option.some (Jvm.ClassFile.FieldType.array Jvm.ClassFile.FieldType.byte)), Jvm.Cond.code ({ cls := "java/util/Arrays", name := "copyOfRangeByte", desc := "([BII)[B" } : Jvm.MethodName) jdk_65_method_133_code (5 : Nat) (Option.some (Jvm.ClassFile.FieldType.array Jvm.ClassFile.FieldType.byte)), Jvm.Cond.code ({ cls := "java/util/Arrays", name := "checkLength", desc := "(II)V" } : Jvm.MethodName) jdk_65_method_131_code (2 : Nat) (Option.none : Option Jvm.ClassFile.FieldType), Jvm.Cond.code ({ cls := "java/lang/Math", name := "min", desc := "(II)I" } : Jvm.MethodName) jdk_29_method_69_code (2 : Nat) (Option.some Jvm.ClassFile.FieldType.int), Jvm.Cond.code ({ cls := "java/lang/String", name := "<init>", desc := "([BB)V" } : Jvm.MethodName) jdk_42_method_151_code (3 : Nat) (Option.none : Option Jvm.ClassFile.FieldType), Jvm.Cond.code ({ cls := "java/lang/String", name := "charAt", desc := "(I)C" } : Jvm.MethodName) jdk_42_method_56_code (2 : Nat) (Option.some Jvm.ClassFile.FieldType.char), Jvm.Cond.code ({ cls := "java/lang/StringLatin1", name := "charAt", desc := "([BI)C" } : Jvm.MethodName) jdk_43_method_2_code (2 : Nat) (Option.some Jvm.ClassFile.FieldType.char), Jvm.Cond.code ({ cls := "java/lang/String", name := "checkIndex", desc := "(II)V" } : Jvm.MethodName) jdk_42_method_155_code (2 : Nat) (Option.none : Option Jvm.ClassFile.FieldType), Jvm.Cond.code ({ cls := "jdk/internal/util/Preconditions", name := "checkIndex", desc := "(IILjava/util/function/BiFunction;)I" } : Jvm.MethodName) jdk_41_method_11_code (3 : Nat) (Option.some Jvm.ClassFile.FieldType.int), Jvm.Cond.code ({ cls := "java/lang/StringUTF16", name := "toBytes", desc := "([CII)[B" } : Jvm.MethodName) jdk_52_method_14_code (5 : Nat) (Option.some (Jvm.ClassFile.FieldType.array Jvm.ClassFile.FieldType.byte)), Jvm.Cond.code ({ cls := "java/lang/StringUTF16", name := "newBytesFor", desc := "(I)[B" } : Jvm.MethodName) jdk_52_method_2_code (1 : Nat) (Option.some (Jvm.ClassFile.FieldType.array Jvm.ClassFile.FieldType.byte)), Jvm.Cond.code ({ cls := "java/lang/StringUTF16", name := "newBytesLength", desc := "(I)I" } : Jvm.MethodName) jdk_52_method_3_code (1 : Nat) (Option.some Jvm.ClassFile.FieldType.int), Jvm.Cond.code ({ cls := "java/lang/StringUTF16", name := "putChar", desc := "([BII)V" } : Jvm.MethodName) jdk_52_method_4_code (3 : Nat) (Option.none : Option Jvm.ClassFile.FieldType), Jvm.Cond.code ({ cls := "java/lang/StringUTF16", name := "getChar", desc := "([BI)C" } : Jvm.MethodName) jdk_52_method_5_code (2 : Nat) (Option.some Jvm.ClassFile.FieldType.char), Jvm.Cond.code ({ cls := "java/lang/StringUTF16", name := "charAt", desc := "([BI)C" } : Jvm.MethodName) jdk_52_method_83_code (2 : Nat) (Option.some Jvm.ClassFile.FieldType.char), Jvm.Cond.code ({ cls := "java/lang/StringUTF16", name := "checkIndex", desc := "(I[B)V" } : Jvm.MethodName) jdk_52_method_91_code (2 : Nat) (Option.none : Option Jvm.ClassFile.FieldType), Jvm.Cond.code ({ cls := "java/lang/StringUTF16", name := "length", desc := "([B)I" } : Jvm.MethodName) jdk_52_method_6_code (1 : Nat) (Option.some Jvm.ClassFile.FieldType.int), Jvm.Cond.code ({ cls := "java/lang/StringUTF16", name := "newString", desc := "([BII)Ljava/lang/String;" } : Jvm.MethodName) jdk_52_method_69_code (5 : Nat) (Option.some (Jvm.ClassFile.FieldType.object "java/lang/String")), Jvm.Cond.code ({ cls := "java/lang/StringUTF16", name := "compress", desc := "([BII)[B" } : Jvm.MethodName) jdk_52_method_17_code (6 : Nat) (Option.some (Jvm.ClassFile.FieldType.array Jvm.ClassFile.FieldType.byte)), Jvm.Cond.code ({ cls := "java/lang/StringUTF16", name := "compress", desc := "([BI[BII)I" } : Jvm.MethodName) jdk_52_method_22_code (7 : Nat) (Option.some Jvm.ClassFile.FieldType.int), Jvm.Cond.code ({ cls := "java/lang/StringUTF16", name := "checkBoundsOffCount", desc := "(II[B)V" } : Jvm.MethodName) jdk_52_method_94_code (3 : Nat) (Option.none : Option Jvm.ClassFile.FieldType), Jvm.Cond.code ({ cls := "java/lang/String", name := "checkBoundsOffCount", desc := "(III)I" } : Jvm.MethodName) jdk_42_method_157_code (3 : Nat) (Option.some Jvm.ClassFile.FieldType.int), Jvm.Cond.code ({ cls := "jdk/internal/util/Preconditions", name := "checkFromIndexSize", desc := "(IIILjava/util/function/BiFunction;)I" } : Jvm.MethodName) jdk_41_method_13_code (4 : Nat) (Option.some Jvm.ClassFile.FieldType.int)]
set_option maxRecDepth 65536 in
theorem codes_eq : words1.filter isCode = codes1 := rfl
theorem w_codes : ∀ c ∈ words1.filter isCode, c.before args0 about1 = true := by
  rw [codes_eq]
  intro c hc
  simp only [codes1, List.mem_cons, List.not_mem_nil, or_false] at hc
  rcases hc with rfl | rfl | rfl | rfl | rfl | rfl | rfl | rfl | rfl | rfl | rfl | rfl | rfl | rfl | rfl | rfl | rfl | rfl | rfl | rfl | rfl | rfl | rfl | rfl | rfl | rfl | rfl | rfl | rfl | rfl | rfl | rfl | rfl | rfl | rfl | rfl | rfl | rfl | rfl | rfl
  · exact w_c0
  · exact w_c1
  · exact w_c2
  · exact w_c3
  · exact w_c4
  · exact w_c5
  · exact w_c6
  · exact w_c7
  · exact w_c8
  · exact w_c9
  · exact w_c10
  · exact w_c11
  · exact w_c12
  · exact w_c13
  · exact w_c14
  · exact w_c15
  · exact w_c16
  · exact w_c17
  · exact w_c18
  · exact w_c19
  · exact w_c20
  · exact w_c21
  · exact w_c22
  · exact w_c23
  · exact w_c24
  · exact w_c25
  · exact w_c26
  · exact w_c27
  · exact w_c28
  · exact w_c29
  · exact w_c30
  · exact w_c31
  · exact w_c32
  · exact w_c33
  · exact w_c34
  · exact w_c35
  · exact w_c36
  · exact w_c37
  · exact w_c38
  · exact w_c39
set_option maxRecDepth 65536 in
theorem w_t1 : (words1.take 24).all (fun c => isCode c || c.before args0 about1) = true := by decide +kernel
set_option maxRecDepth 65536 in
theorem w_t2 : ((words1.drop 24).take 24).all (fun c => isCode c || c.before args0 about1) = true := by decide +kernel
set_option maxRecDepth 65536 in
theorem w_t3 : (((words1.drop 24).drop 24).take 24).all (fun c => isCode c || c.before args0 about1) = true := by decide +kernel
set_option maxRecDepth 65536 in
theorem w_t4 : ((((words1.drop 24).drop 24).drop 24).take 24).all (fun c => isCode c || c.before args0 about1) = true := by decide +kernel
set_option maxRecDepth 65536 in
theorem w_t5 : (((((words1.drop 24).drop 24).drop 24).drop 24).take 24).all (fun c => isCode c || c.before args0 about1) = true := by decide +kernel
set_option maxRecDepth 65536 in
theorem w_t6 : ((((((words1.drop 24).drop 24).drop 24).drop 24).drop 24).take 24).all (fun c => isCode c || c.before args0 about1) = true := by decide +kernel
set_option maxRecDepth 65536 in
theorem w_t7 : (((((((words1.drop 24).drop 24).drop 24).drop 24).drop 24).drop 24).take 24).all (fun c => isCode c || c.before args0 about1) = true := by decide +kernel
set_option maxRecDepth 65536 in
theorem w_t8 : (((((((words1.drop 24).drop 24).drop 24).drop 24).drop 24).drop 24).drop 24).all (fun c => isCode c || c.before args0 about1) = true := by decide +kernel
theorem w_tables : (allAtoms (Jvm.Cond.code x code maxLocals ret :: tables_1)).before args0 about1 = true := by
  rw [allAtoms_all]
  show words1.all (fun c => c.before args0 about1) = true
  refine all_split ?_ w_codes
  rw [← List.take_append_drop 24 words1, List.all_append, w_t1, ← List.take_append_drop 24 (words1.drop 24), List.all_append, w_t2, ← List.take_append_drop 24 ((words1.drop 24).drop 24), List.all_append, w_t3, ← List.take_append_drop 24 (((words1.drop 24).drop 24).drop 24), List.all_append, w_t4, ← List.take_append_drop 24 ((((words1.drop 24).drop 24).drop 24).drop 24), List.all_append, w_t5, ← List.take_append_drop 24 (((((words1.drop 24).drop 24).drop 24).drop 24).drop 24), List.all_append, w_t6, ← List.take_append_drop 24 ((((((words1.drop 24).drop 24).drop 24).drop 24).drop 24).drop 24), List.all_append, w_t7, w_t8]
  rfl
set_option maxRecDepth 65536 in
theorem w_rest : rest_1_c.before args0 about1 = true := by decide +kernel
set_option maxRecDepth 65536 in
theorem w_case : (Jvm.Cond.and given_1 narrow_1).before args0 about1 = true := by decide +kernel
set_option maxRecDepth 65536 in
theorem w_consts : constsHeld consts_1 about1 := Jvm.Lit.constsHeldB_iff.mp (by decide +kernel)
theorem w_applies : (headSpec (Jvm.Cond.code x code maxLocals ret :: tables_1) room_1).applies x e0.platform about1 = true :=
  (Spec.applies_iff w_frames).mpr ⟨w_running, w_runnable, w_alone, w_named, w_hears, w_ripe, w_room, w_tables⟩
theorem atStart : AtStart classFile x code maxLocals ret World_1 tables_1 room_1 Calls_1 rest_1 Pre_1 launch0 p0 e0 about1 theMethod args0 below0 :=
  ⟨lists_1, trivial, launch0.admits_env _ _ _, launch0.least_env, fairChoices_fair.cas, fairChoices_fair.clock, w_frames, w_args, w_heap, w_applies, ⟨w_consts, trivial⟩, w_rest, w_case⟩
end start1
theorem witness_1 : WitnessClaimed_1 := ⟨start1.p0, start1.e0, start1.about1, start1.theMethod, start1.args0, start1.below0, start1.atStart⟩
end Jvm.Pilot.@@N@@
