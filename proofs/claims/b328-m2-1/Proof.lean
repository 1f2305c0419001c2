import JvmDerived
import JvmDerived.Pilot.@@N@@Statement
import JvmDerived.Pilot.@@N@@Code
set_option linter.unusedVariables false
set_option linter.unusedSimpArgs false
@@BLOCK:NumsL.lean.txt@@
/- laws to paste: Road.eqW (cut by pick.py; bodies as the Statement names them) -/
namespace Jvm.Pilot.@@N@@
namespace StrChars
open Jvm Sem ClassFile Op Lib Jvm.Stand Jvm.Free.XT Jvm.Free.ALB Jvm.Free.JM Jvm.Free
open Jvm.Lib.Cold (StaticIs)
/-- the byte that i2b leaves of a char -/
def lo8 (x : Int32) : Int32 := x.toInt8.toInt32
theorem fits_lo8 (y : Int32) : fits .byte (.int (lo8 y)) = true := by
  have h1 := y.toInt8.le_toInt
  have h2 := y.toInt8.toInt_lt
  simp only [lo8, fits, Bool.and_eq_true, decide_eq_true_eq, Int32.le_iff_toInt_le, Int8.toInt_toInt32, show (-128 : Int32).toInt = -128 from by decide, show (127 : Int32).toInt = 127 from by decide]
  omega
/-- the byte, read back as charAt reads it, is the char -/
theorem lo8_mask {x : Int32} (h0 : ¬ x < 0) (h1 : ¬ 255 < x) : lo8 x &&& 255 = x := by
  have t : ∀ k : Fin 256, lo8 (Int32.ofNat k.val) &&& 255 = Int32.ofNat k.val := by decide +kernel
  rw [Int32.lt_iff_toInt_lt] at h0 h1
  have e0 : (0 : Int32).toInt = 0 := rfl
  have e1 : (255 : Int32).toInt = 255 := rfl
  obtain ⟨k, hk⟩ : ∃ k : Nat, x.toInt = k := ⟨x.toInt.toNat, by omega⟩
  have hx : x = Int32.ofNat k := Int32.toInt_inj.mp (by rw [hk, Int32.toInt_ofNat_small (by omega)])
  rw [hx]
  exact t ⟨k, by omega⟩
end StrChars
namespace StrChars.Road
open Jvm Sem ClassFile Op Lib Jvm.Stand Jvm.Free Jvm.Free.XT
open Jvm.Lib.Cold (StaticIs)
abbrev ST : String := "java/lang/String"
end StrChars.Road
namespace StrChars
open Jvm Sem ClassFile Op Lib Jvm.Stand Jvm.Free.XT Jvm.Free.ALB Jvm.Free.JM Jvm.Free
open Jvm.Lib.Cold (StaticIs)
def hi8 (x : Int32) : Int32 := lo8 (x >>> ((8 : Int32) &&& 31))
/-- what StringUTF16.getChar makes of two bytes -/
def pairCh (u v : Int32) : Int32 := (((u &&& 255) <<< ((0 : Int32) &&& 31)) ||| ((v &&& 255) <<< ((8 : Int32) &&& 31))).toUInt32.toUInt16.toUInt32.toInt32
theorem lo8_and (x : Int32) : (lo8 x &&& 255).toBitVec.toNat = x.toBitVec.toNat % 256 := by
  have h : (lo8 x).toBitVec = (x.toBitVec.signExtend 8).signExtend 32 := by rw [lo8, Int8.toBitVec_toInt32, Int32.toBitVec_toInt8]
  rw [Int32.toBitVec_and, BitVec.toNat_and, h]
  have e : ((x.toBitVec.signExtend 8).signExtend 32).toNat % 256 = x.toBitVec.toNat % 256 := by
    rw [BitVec.toNat_signExtend]
    have hlt := x.toBitVec.isLt
    simp only [BitVec.toNat_setWidth, BitVec.toNat_signExtend]
    split <;> split <;> omega
  rw [← e]
  exact Nat.and_two_pow_sub_one_eq_mod _ 8
theorem pair_says {c : Int32} (h0 : ¬ c < 0) (h1 : ¬ 65535 < c) : pairCh (lo8 c) (hi8 c) = c := by
  rw [Int32.lt_iff_toInt_lt] at h0 h1
  have e0 : (0 : Int32).toInt = 0 := rfl
  have e1 : (65535 : Int32).toInt = 65535 := rfl
  have hc : c.toInt = c.toBitVec.toNat := by
    have := c.toBitVec.isLt
    have e : c.toInt = c.toBitVec.toInt := rfl
    rw [e] at h0 h1
    rw [e]
    rw [BitVec.toInt_eq_toNat_cond] at h0 h1 ⊢
    split at h0 <;> split <;> omega
  have hn : c.toBitVec.toNat < 65536 := by omega
  have a1 := lo8_and c
  have a2 : (hi8 c &&& 255).toBitVec.toNat = c.toBitVec.toNat / 256 := by
    rw [hi8, lo8_and]
    have e : ((8 : Int32) &&& 31) = 8 := by decide
    rw [e, Int32.toBitVec_shiftRight]
    have e2 : ((8 : Int32).toBitVec.smod 32) = 8#32 := by decide
    rw [e2, BitVec.sshiftRight_eq', BitVec.toNat_sshiftRight_of_msb_false (by rw [BitVec.msb_eq_false_iff_two_mul_lt]; omega)]
    show c.toBitVec.toNat >>> 8 % 256 = _
    rw [Nat.shiftRight_eq_div_pow]
    omega
  unfold pairCh
  apply Int32.toBitVec_inj.mp
  apply BitVec.eq_of_toNat_eq
  have f0 : ((0 : Int32) &&& 31) = 0 := by decide
  have f8 : ((8 : Int32) &&& 31) = 8 := by decide
  rw [f0, f8]
  have g : (((lo8 c &&& 255) <<< (0 : Int32)) ||| ((hi8 c &&& 255) <<< (8 : Int32))).toBitVec.toNat = c.toBitVec.toNat := by
    rw [Int32.toBitVec_or, Int32.toBitVec_shiftLeft, Int32.toBitVec_shiftLeft]
    have s0 : ((0 : Int32).toBitVec.smod 32) = 0#32 := by decide
    have s8 : ((8 : Int32).toBitVec.smod 32) = 8#32 := by decide
    rw [s0, s8, BitVec.toNat_or]
    simp only [BitVec.shiftLeft_eq', BitVec.toNat_shiftLeft, a1, a2]
    show (c.toBitVec.toNat % 256) <<< 0 % 2 ^ 32 ||| (c.toBitVec.toNat / 256) <<< 8 % 2 ^ 32 = _
    rw [Nat.shiftLeft_zero, Nat.mod_eq_of_lt (show c.toBitVec.toNat % 256 < 2 ^ 32 by omega), Nat.mod_eq_of_lt (show (c.toBitVec.toNat / 256) <<< 8 < 2 ^ 32 by rw [Nat.shiftLeft_eq]; omega), Nat.or_comm, ← Nat.shiftLeft_add_eq_or_of_lt (by omega), Nat.shiftLeft_eq]
    omega
  show BitVec.toNat (((((lo8 c &&& 255) <<< (0 : Int32)) ||| ((hi8 c &&& 255) <<< (8 : Int32))).toBitVec.setWidth 16).setWidth 32) = _
  rw [BitVec.toNat_setWidth, BitVec.toNat_setWidth, g]
  omega
end StrChars
namespace StrChars
open Jvm Sem ClassFile Op Lib Jvm.Stand Jvm.Free.XT Jvm.Free.ALB Jvm.Free.JM Jvm.Free
open Jvm.Lib.Cold (StaticIs)
/-- the array's cell V codes the n chars f 0 .. f (n - 1) by the coder cd, as the JDK does: coder 1 just where some char is above 255 -/
def Cod (cd : Int32) (n : Nat) (f : Nat → Int32) (V : Cell) : Prop := (cd = 0 ∧ V.slots.size = n ∧ ∀ j, j < n → V.slots[j]? = some (.int (lo8 (f j))) ∧ ¬ 255 < f j) ∨ (cd = 1 ∧ V.slots.size = 2 * n ∧ (∀ j, j < n → V.slots[2 * j]? = some (.int (lo8 (f j))) ∧ V.slots[2 * j + 1]? = some (.int (hi8 (f j)))) ∧ ∃ j, j < n ∧ 255 < f j)
/-- **x is a String of the n chars f 0 .. f (n - 1)**, Latin-1 or UTF-16; its array at t has the cell V -/
def Txt (x t : Addr) (V : Cell) (cd : Int32) (n : Nat) (f : Nat → Int32) (U : State) : Prop := Exact "java/lang/String" x U ∧ Has x "java/lang/String" "value" "[B" (.ref t) U ∧ Has x "java/lang/String" "coder" "B" (.int cd) U ∧ XT.Arr .byte t V U ∧ Cod cd n f V ∧ ∀ j, j < n → ¬ f j < 0 ∧ ¬ 65535 < f j
theorem Txt.mv {x t : Addr} {V : Cell} {cd : Int32} {n : Nat} {f : Nat → Int32} {U U' : State} (h : Txt x t V cd n f U) (hal : U.vm.Alike U'.vm) (hh : U'.heap = U.heap) : Txt x t V cd n f U' := ⟨h.1.mv hal hh, h.2.1.mv hal hh, h.2.2.1.mv hal hh, h.2.2.2.1.mv hal hh, h.2.2.2.2⟩
end StrChars
namespace StrChars.Road
open Jvm Sem ClassFile Op Lib Jvm.Stand Jvm.Free Jvm.Free.XT
open Jvm.Lib.Cold (StaticIs)
theorem consq {a : Array Value} {s : State} {c : Jvm.Cond} {L : List Jvm.Cond} (h0 : c.before a s = true) (h : ∀ w ∈ L, w.before a s = true) : ∀ w ∈ c :: L, w.before a s = true := fun w hw => (List.mem_cons.mp hw).elim (fun e => e ▸ h0) (h w)
/-- the bytes of the chars cs, low before high -/
def wideBytes : List Int32 → List Value
  | [] => []
  | c :: cs => .int (lo8 c) :: .int (hi8 c) :: wideBytes cs
theorem wide_lo (d : Value) : ∀ (cs : List Int32) (j : Nat), j < cs.length → (wideBytes cs).getD (2 * j) d = .int (lo8 (cs.getD j 0))
  | [], j, h => absurd h (Nat.not_lt_zero j)
  | c :: cs, 0, _ => rfl
  | c :: cs, j + 1, h => by
    have q := wide_lo d cs j (by simpa using h)
    rw [show 2 * (j + 1) = 2 * j + 1 + 1 from by omega]
    simpa [wideBytes] using q
theorem wide_hi (d : Value) : ∀ (cs : List Int32) (j : Nat), j < cs.length → (wideBytes cs).getD (2 * j + 1) d = .int (hi8 (cs.getD j 0))
  | [], j, h => absurd h (Nat.not_lt_zero j)
  | c :: cs, 0, _ => rfl
  | c :: cs, j + 1, h => by
    have q := wide_hi d cs j (by simpa using h)
    rw [show 2 * (j + 1) + 1 = 2 * j + 1 + 1 + 1 from by omega]
    simpa [wideBytes] using q
theorem low_at (d : Value) (cs : List Int32) (j : Nat) (h : j < cs.length) : (cs.map fun c => Value.int (lo8 c)).getD j d = .int (lo8 (cs.getD j 0)) := by
  simp [List.getD_eq_getElem?_getD, h]
/-- an array of N2 bytes vs codes the chars cs by the coder cd -/
def CodA (cs : List Int32) (cd N2 : Int32) (vs : List Value) : Prop := (cd = 0 ∧ N2 = Int32.ofNat cs.length ∧ vs = (cs.map fun c => Value.int (lo8 c)) ∧ ∀ c ∈ cs, ¬ 255 < c) ∨ (cd = 1 ∧ N2 = Int32.ofNat (2 * cs.length) ∧ vs = wideBytes cs ∧ ∃ c ∈ cs, 255 < c)
theorem CodA.cod {cs : List Int32} {cd N2 : Int32} {vs : List Value} {V : Cell} (h : CodA cs cd N2 vs) (hn : 2 * cs.length < 2 ^ 31) (hs : V.slots.size = N2.toNatClampNeg) (hv : RoadKit.Has V vs (.int 0)) : Cod cd cs.length (fun j => cs.getD j 0) V := by
  rcases h with ⟨rfl, rfl, rfl, h⟩ | ⟨rfl, rfl, rfl, c, hc, hw⟩
  · rw [n32 (by omega)] at hs
    exact Or.inl ⟨rfl, hs, fun j hj => ⟨by rw [hv j (by omega), low_at _ _ _ hj], by
      have e : cs.getD j 0 = cs[j] := by simp [List.getD_eq_getElem?_getD, hj]
      show ¬ 255 < cs.getD j 0
      rw [e]; exact h _ (List.getElem_mem _)⟩⟩
  · rw [n32 (by omega)] at hs
    obtain ⟨j, hj, rfl⟩ := List.getElem_of_mem hc
    exact Or.inr ⟨rfl, hs, fun j hj => ⟨by rw [hv _ (by omega), wide_lo _ _ _ hj], by rw [hv _ (by omega), wide_hi _ _ _ hj]⟩, j, hj, by
      have e : cs.getD j 0 = cs[j] := by simp [List.getD_eq_getElem?_getD, hj]
      show 255 < cs.getD j 0
      rw [e]; exact hw⟩
/-- an object of exactly java/lang/String, its two fields found: as the laws ask it -/
theorem strObj {Z U : State} {a0 : Array Value} {kI : Nat} (wi : (Jvm.Cond.instantiable ST kI).before a0 Z = true) (al : Z.vm.Alike U.vm) {x : Addr} {v0 c0 : Value} (E : RoadKit.Exa Z U.heap x ST) (V : RoadKit.Fld Z U.heap x ST "value" "[B" v0) (C : RoadKit.Fld Z U.heap x ST "coder" "B" c0) :
    ∃ (D : Cell) (fV fC : Field), Blank ST x D U ∧ Found ST "value" "[B" fV U ∧ Found ST "coder" "B" fC U ∧ D.slots[fV.slot]? = some v0 ∧ D.slots[fC.slot]? = some c0 ∧ RoadKit.slotOf Z ST "value" "[B" = fV.slot ∧ RoadKit.slotOf Z ST "coder" "B" = fC.slot := by
  obtain ⟨D, cfV, kV, iV, fV, hD, gV, stV, knV, obV, asV, slV⟩ := V
  obtain ⟨D', cfC, kC, iC, fC, hD', gC, stC, -, -, asC, slC⟩ := C
  cases hD.symm.trans hD'
  obtain ⟨D2, kD, e1, e2, e3, e4, e5⟩ := E
  cases hD.symm.trans e1
  obtain ⟨c2, k2, i1, i2, i3, -⟩ := Cond.instantiable_spec wi
  cases e2.symm.trans i1
  cases e3.symm.trans i2
  obtain ⟨kU, u1, u2⟩ := al.2.2 _ _ e3
  exact ⟨D, fV, fC, ⟨hD, ⟨knV, fun q hq => by rw [hq] at obV; cases obV⟩, by rw [al.findClass]; exact e2, kU, u1, by rw [u2]; exact i3, by rw [u2]; exact e5 i3⟩, ⟨SBG.found_only al ⟨cfV, kV, iV, gV⟩, stV⟩, ⟨SBG.found_only al ⟨cfC, kC, iC, gC⟩, stC⟩, slV, slC, by simp [RoadKit.slotOf, gV], by simp [RoadKit.slotOf, gC]⟩
theorem sta_is {Z U : State} (al : Z.vm.Alike U.vm) {C n d : String} {v : Value} (S : RoadKit.Sta Z U.heap C n d v) : StaticIs U C n d v := by
  obtain ⟨cfS, iS, kS, fS, st, cS, t1, t2, t3, t4, t5, t6, t7⟩ := S
  exact StaticIs.there (s := { Z with heap := U.heap }) ⟨cfS, iS, kS, fS, st, cS, t1, t2, t3, t4, t5, (fun q => by rw [q] at t6; cases t6), t7⟩ al rfl
end StrChars.Road
namespace StrChars
open Jvm Sem ClassFile Op Lib Jvm.Stand Jvm.Free.XT Jvm.Free.ALB Jvm.Free.JM Jvm.Free
open Jvm.Lib.Cold (StaticIs)
/-- what place i of a byte[]'s cell holds -/
def yv (A : Cell) (i : Nat) : Int32 := match A.slots[i]? with | some (.int x) => x | _ => 0
theorem yv_get {a : Addr} {A : Cell} {U : State} (h : XT.Arr .byte a A U) (ht : Typed .byte A) {i : Nat} (hi : i < A.slots.size) : A.slots[i]? = some (.int (yv A i)) := by
  have e := Array.getElem?_eq_getElem hi
  have f := ht i _ e
  unfold yv; rw [e]
  generalize A.slots[i] = v at f
  cases v <;> simp [fits] at f ⊢
/-- the two arrays are equal, place for place -/
def EqC (A B : Cell) : Prop := A.slots.size = B.slots.size ∧ ∀ i, i < A.slots.size → yv A i = yv B i
/-- a boolean that says whether p -/
def Says01 (q : Prop) (r : Option Value) (s u : State) : Prop := ∃ v : Int32, r = some (.int v) ∧ u.heap = s.heap ∧ ((v = 1 ∧ q) ∨ (v = 0 ∧ ¬ q))
theorem Says01.mv {q : Prop} : ∀ r (U U' V V' : State), U'.heap = U.heap → V.vm.Alike V'.vm → V'.heap = V.heap → Says01 q r U V → Says01 q r U' V' :=
  fun r U U' V V' h1 _ h2 ⟨v, a, b, c⟩ => ⟨v, a, by rw [h1, h2]; exact b, c⟩
namespace LEq
def yN : MethodName := ⟨"java/lang/StringLatin1", "equals", "([B[B)Z"⟩
abbrev yB : ByteArray := jdk_43_method_13_code
theorem d0 : decode yB 0 = .ok (.aload_n 0, 1) := by decide +kernel
theorem d1 : decode yB 1 = .ok (.arraylength, 1) := by decide +kernel
theorem d2 : decode yB 2 = .ok (.aload_n 1, 1) := by decide +kernel
theorem d3 : decode yB 3 = .ok (.arraylength, 1) := by decide +kernel
theorem d4 : decode yB 4 = .ok (.if_icmp (.ne) 30, 3) := by decide +kernel
theorem d7 : decode yB 7 = .ok (.iconst 0, 1) := by decide +kernel
theorem d8 : decode yB 8 = .ok (.istore_n 2, 1) := by decide +kernel
theorem d9 : decode yB 9 = .ok (.iload_n 2, 1) := by decide +kernel
theorem d10 : decode yB 10 = .ok (.aload_n 0, 1) := by decide +kernel
theorem d11 : decode yB 11 = .ok (.arraylength, 1) := by decide +kernel
theorem d12 : decode yB 12 = .ok (.if_icmp (.ge) 20, 3) := by decide +kernel
theorem d15 : decode yB 15 = .ok (.aload_n 0, 1) := by decide +kernel
theorem d16 : decode yB 16 = .ok (.iload_n 2, 1) := by decide +kernel
theorem d17 : decode yB 17 = .ok (.baload, 1) := by decide +kernel
theorem d18 : decode yB 18 = .ok (.aload_n 1, 1) := by decide +kernel
theorem d19 : decode yB 19 = .ok (.iload_n 2, 1) := by decide +kernel
theorem d20 : decode yB 20 = .ok (.baload, 1) := by decide +kernel
theorem d21 : decode yB 21 = .ok (.if_icmp (.eq) 5, 3) := by decide +kernel
theorem d24 : decode yB 24 = .ok (.iconst 0, 1) := by decide +kernel
theorem d25 : decode yB 25 = .ok (.ireturn, 1) := by decide +kernel
theorem d26 : decode yB 26 = .ok (.iinc 2 1, 3) := by decide +kernel
theorem d29 : decode yB 29 = .ok (.goto (-20), 3) := by decide +kernel
theorem d32 : decode yB 32 = .ok (.iconst 1, 1) := by decide +kernel
theorem d33 : decode yB 33 = .ok (.ireturn, 1) := by decide +kernel
theorem d34 : decode yB 34 = .ok (.iconst 0, 1) := by decide +kernel
theorem d35 : decode yB 35 = .ok (.ireturn, 1) := by decide +kernel
def site : List Cond := []
def tab : Cond := tabOf yN yB 3 (some .boolean) site
def P (a : Addr) (A : Cell) (b : Addr) (B : Cell) (args : Array Value) (s : State) : Prop := args = #[.ref a, .ref b] ∧ XT.Arr .byte a A s ∧ Typed .byte A ∧ XT.Arr .byte b B s ∧ Typed .byte B
/-- whether two byte[] are equal, place for place -/
theorem law (l : Launch) (a : Addr) (A : Cell) (b : Addr) (B : Cell) : Law l yN 2 2 0 0 yB 3 (some .boolean) site (P a A b B) (Says01 (EqC A B)) [] 0 0 := by
  refine Law.of_walk (plainFor_of_name (by decide +kernel)) (by decide +kernel) (by decide +kernel) (by decide) (fun _ _ h => by rw [h.1]; rfl) (fun _ U U' hal hh h => ⟨h.1, h.2.1.mv hal hh, h.2.2.1, h.2.2.2.1.mv hal hh, h.2.2.2.2⟩) (fun r U U' V V' h1 hal h2 h => Says01.mv r U U' V V' h1 hal h2 h) ?_
  intro p e s m args below meth c s₁ X0 hexec hbytes hml hret hlk hnm hown hh0 W hP
  obtain ⟨rfl, hA, tA, hB, tB⟩ := hP
  have a31 := hA.2.2.2
  have b31 := hB.2.2.2
  have hA0 := hA.mv X0.warmed.alike hh0
  have hB0 := hB.mv X0.warmed.alike hh0
  have c1 : Steps p.tables e below (s₁.setTop (entryFrame m #[.ref a, .ref b] 3)) (s₁.setTop (mkF m 0 #[.val (.ref a), .val (.ref b), .unset] [])) := entry rfl
  have c2 : Steps p.tables e below (s₁.setTop (entryFrame m #[.ref a, .ref b] 3)) (s₁.setTop (mkF m 4 #[.val (.ref a), .val (.ref b), .unset] [.int (Int32.ofNat B.slots.size), .int (Int32.ofNat A.slots.size)])) := c1.trans (by
    refine XS.aloadN X0.here hexec rfl (hb hbytes d0) rfl rfl ?_
    refine X0.alen hexec hA0 rfl rfl (hb hbytes d1) ?_
    refine XS.aloadN X0.here hexec rfl (hb hbytes d2) rfl rfl ?_
    refine X0.alen hexec hB0 rfl rfl (hb hbytes d3) ?_
    exact Steps.refl _)
  by_cases hs : A.slots.size = B.slots.size
  · have c3 : Steps p.tables e below (s₁.setTop (entryFrame m #[.ref a, .ref b] 3)) (s₁.setTop (mkF m 9 #[.val (.ref a), .val (.ref b), .val (.int 0)] [])) := c2.trans (by
      refine XS.icmpNo X0.here hexec rfl (hb hbytes d4) rfl (ii_ne_f (by rw [hs])) ?_
      refine iconstV X0.here hexec rfl 0 (hb hbytes d7) (by decide) ?_
      refine XS.istoreN X0.here hexec rfl (hb hbytes d8) rfl rfl ?_
      exact Steps.refl _)
    have loop : ∀ (r i : Nat), i + r = A.slots.size → (∀ j, j < i → yv A j = yv B j) → Steps p.tables e below (s₁.setTop (entryFrame m #[.ref a, .ref b] 3)) (s₁.setTop (mkF m 9 #[.val (.ref a), .val (.ref b), .val (.int (Int32.ofNat i))] [])) → ∃ (pc : Nat) (Ls : Array Slot) (v : Int32), (pc = 25 ∨ pc = 33) ∧ ((v = 1 ∧ EqC A B) ∨ (v = 0 ∧ ¬ EqC A B)) ∧ Steps p.tables e below (s₁.setTop (entryFrame m #[.ref a, .ref b] 3)) (s₁.setTop (mkF m pc Ls [.int v])) := by
      intro r
      induction r with
      | zero =>
        intro i hi he cl
        exact ⟨33, _, 1, Or.inr rfl, Or.inl ⟨rfl, hs, fun j hj => he j (by omega)⟩, cl.trans (by
          refine XS.iloadN X0.here hexec rfl (hb hbytes d9) rfl ?_
          refine XS.aloadN X0.here hexec rfl (hb hbytes d10) rfl rfl ?_
          refine X0.alen hexec hA0 rfl rfl (hb hbytes d11) ?_
          refine XS.icmpYes X0.here hexec rfl (pc0 := 12) rfl (hb hbytes d12) rfl (ii_ge_t (nlt32 (by omega) (by omega))) (by decide) rfl ?_
          refine iconstV X0.here hexec rfl 1 (hb hbytes d32) (by decide) ?_
          exact Steps.refl _)⟩
      | succ r ih =>
        intro i hi he cl
        have c4 : Steps p.tables e below (s₁.setTop (entryFrame m #[.ref a, .ref b] 3)) (s₁.setTop (mkF m 21 #[.val (.ref a), .val (.ref b), .val (.int (Int32.ofNat i))] [.int (yv B i), .int (yv A i)])) := cl.trans (by
          refine XS.iloadN X0.here hexec rfl (hb hbytes d9) rfl ?_
          refine XS.aloadN X0.here hexec rfl (hb hbytes d10) rfl rfl ?_
          refine X0.alen hexec hA0 rfl rfl (hb hbytes d11) ?_
          refine XS.icmpNo X0.here hexec rfl (hb hbytes d12) rfl (ii_ge_f (lt32 (by omega) (by omega))) ?_
          refine XS.aloadN X0.here hexec rfl (hb hbytes d15) rfl rfl ?_
          refine XS.iloadN X0.here hexec rfl (hb hbytes d16) rfl ?_
          refine X0.aget hexec hA0 rfl (yv_get hA tA (i := i) (by omega)) rfl rfl (hb hbytes d17) ?_
          refine XS.aloadN X0.here hexec rfl (hb hbytes d18) rfl rfl ?_
          refine XS.iloadN X0.here hexec rfl (hb hbytes d19) rfl ?_
          refine X0.aget hexec hB0 rfl (yv_get hB tB (i := i) (by omega)) rfl rfl (hb hbytes d20) ?_
          exact Steps.refl _)
        by_cases hv : yv A i = yv B i
        · have c5 : Steps p.tables e below (s₁.setTop (entryFrame m #[.ref a, .ref b] 3)) (s₁.setTop (mkF m 9 #[.val (.ref a), .val (.ref b), .val (.int (Int32.ofNat i + 1))] [])) := c4.trans (by
            refine XS.icmpYes X0.here hexec rfl (pc0 := 21) rfl (hb hbytes d21) rfl (ii_eq_t hv) (by decide) rfl ?_
            refine iincV X0.here hexec rfl 1 (hb hbytes d26) (by decide) rfl rfl ?_
            refine XS.goto X0.here hexec rfl (pc0 := 29) rfl (hb hbytes d29) (by decide) rfl ?_
            exact Steps.refl _)
          rw [succ32] at c5
          exact ih (i + 1) (by omega) (fun j hj => by
            by_cases e : j = i
            · rw [e]; exact hv
            · exact he j (by omega)) c5
        · exact ⟨25, _, 0, Or.inl rfl, Or.inr ⟨rfl, fun q => hv (q.2 i (by omega))⟩, c4.trans (by
            refine XS.icmpNo X0.here hexec rfl (hb hbytes d21) rfl (ii_eq_f hv) ?_
            refine iconstV X0.here hexec rfl 0 (hb hbytes d24) (by decide) ?_
            exact Steps.refl _)⟩
    obtain ⟨pc, Ls, v, hpc, hv, cz⟩ := loop A.slots.size 0 (by omega) (fun j hj => absurd hj (Nat.not_lt_zero j)) c3
    have nv : narrow .boolean (.int v) = .int v := by rcases hv with ⟨rfl, -⟩ | ⟨rfl, -⟩ <;> rfl
    rcases hpc with rfl | rfl
    · exact ⟨s₁, some (.int v), _, _, _, X0, rfl, rfl, rfl, (fun h => by cases h), ⟨v, rfl, hh0, hv⟩, fun fs hl => cz.trans (X0.ireturnOut hexec hret nv (Or.inr (Or.inl rfl)) (hb hbytes d25) hl)⟩
    · exact ⟨s₁, some (.int v), _, _, _, X0, rfl, rfl, rfl, (fun h => by cases h), ⟨v, rfl, hh0, hv⟩, fun fs hl => cz.trans (X0.ireturnOut hexec hret nv (Or.inr (Or.inl rfl)) (hb hbytes d33) hl)⟩
  · have c3 : Steps p.tables e below (s₁.setTop (entryFrame m #[.ref a, .ref b] 3)) (s₁.setTop (mkF m 35 #[.val (.ref a), .val (.ref b), .unset] [.int 0])) := c2.trans (by
      refine XS.icmpYes X0.here hexec rfl (pc0 := 4) rfl (hb hbytes d4) rfl (ii_ne_t (ne32 a31 b31 hs)) (by decide) rfl ?_
      refine iconstV X0.here hexec rfl 0 (hb hbytes d34) (by decide) ?_
      exact Steps.refl _)
    exact ⟨s₁, some (.int 0), _, _, _, X0, rfl, rfl, rfl, (fun h => by cases h), ⟨0, rfl, hh0, Or.inr ⟨rfl, fun q => hs q.1⟩⟩, fun fs hl => c3.trans (X0.ireturnOut hexec hret rfl (Or.inr (Or.inl rfl)) (hb hbytes d35) hl)⟩
end LEq
theorem Cod.ty {cd : Int32} {n : Nat} {f : Nat → Int32} {V : Cell} (h : Cod cd n f V) : Typed .byte V := fun i v hv => by
  have hi : i < V.slots.size := (Array.getElem?_eq_some_iff.mp hv).1
  rcases h with ⟨-, k1, k2⟩ | ⟨-, k1, k2, -⟩
  · rw [(k2 i (by omega)).1] at hv; cases hv; exact fits_lo8 _
  · rcases Nat.mod_two_eq_zero_or_one i with e | e
    · obtain ⟨j, rfl⟩ : ∃ j, i = 2 * j := ⟨i / 2, by omega⟩
      rw [(k2 j (by omega)).1] at hv; cases hv; exact fits_lo8 _
    · obtain ⟨j, rfl⟩ : ∃ j, i = 2 * j + 1 := ⟨i / 2, by omega⟩
      rw [(k2 j (by omega)).2] at hv; cases hv; exact fits_lo8 _
/-- the same text -/
def SameT (n : Nat) (f : Nat → Int32) (k : Nat) (g : Nat → Int32) : Prop := n = k ∧ ∀ j, j < n → f j = g j
theorem lo8_inj {x y : Int32} (h0 : ¬ x < 0) (h1 : ¬ 255 < x) (k0 : ¬ y < 0) (k1 : ¬ 255 < y) (h : lo8 x = lo8 y) : x = y := by
  rw [← lo8_mask h0 h1, ← lo8_mask k0 k1, h]
/-- arrays coded by one coder are equal just where the texts are -/
theorem Cod.eqv {cd : Int32} {n k : Nat} {f g : Nat → Int32} {V V' : Cell} (h : Cod cd n f V) (h' : Cod cd k g V') (hf : ∀ j, j < n → ¬ f j < 0 ∧ ¬ 65535 < f j) (hg : ∀ j, j < k → ¬ g j < 0 ∧ ¬ 65535 < g j) : EqC V V' ↔ SameT n f k g := by
  have yvv : ∀ {W : Cell} {i : Nat} {x : Int32}, W.slots[i]? = some (.int x) → yv W i = x := fun q => by unfold yv; rw [q]
  rcases h with ⟨rfl, k1, k2⟩ | ⟨rfl, k1, k2, -⟩
  · rcases h' with ⟨-, m1, m2⟩ | ⟨e, -⟩
    · constructor
      · rintro ⟨e1, e2⟩
        refine ⟨by omega, fun j hj => ?_⟩
        have q := e2 j (by omega)
        rw [yvv (k2 j hj).1, yvv (m2 j (by omega)).1] at q
        exact lo8_inj (hf j hj).1 (k2 j hj).2 (hg j (by omega)).1 (m2 j (by omega)).2 q
      · rintro ⟨rfl, e2⟩
        refine ⟨by omega, fun j hj => ?_⟩
        rw [yvv (k2 j (by omega)).1, yvv (m2 j (by omega)).1, e2 j (by omega)]
    · exact absurd e (by decide)
  · rcases h' with ⟨e, -⟩ | ⟨-, m1, m2, -⟩
    · exact absurd e (by decide)
    · constructor
      · rintro ⟨e1, e2⟩
        refine ⟨by omega, fun j hj => ?_⟩
        have q1 := e2 (2 * j) (by omega)
        have q2 := e2 (2 * j + 1) (by omega)
        rw [yvv (k2 j hj).1, yvv (m2 j (by omega)).1] at q1
        rw [yvv (k2 j hj).2, yvv (m2 j (by omega)).2] at q2
        rw [← pair_says (hf j hj).1 (hf j hj).2, ← pair_says (hg j (by omega)).1 (hg j (by omega)).2, q1, q2]
      · rintro ⟨rfl, e2⟩
        refine ⟨by omega, fun i hi => ?_⟩
        rcases Nat.mod_two_eq_zero_or_one i with e | e
        · obtain ⟨j, rfl⟩ : ∃ j, i = 2 * j := ⟨i / 2, by omega⟩
          rw [yvv (k2 j (by omega)).1, yvv (m2 j (by omega)).1, e2 j (by omega)]
        · obtain ⟨j, rfl⟩ : ∃ j, i = 2 * j + 1 := ⟨i / 2, by omega⟩
          rw [yvv (k2 j (by omega)).2, yvv (m2 j (by omega)).2, e2 j (by omega)]
/-- two codings differ: so do the texts -/
theorem Cod.dif {cd cd' : Int32} {n k : Nat} {f g : Nat → Int32} {V V' : Cell} (h : Cod cd n f V) (h' : Cod cd' k g V') (hne : ¬ cd = cd') : ¬ SameT n f k g := by
  rintro ⟨rfl, e⟩
  rcases h with ⟨rfl, -, k2⟩ | ⟨rfl, -, -, j, hj, hw⟩
  · rcases h' with ⟨rfl, -⟩ | ⟨-, -, -, j, hj, hw⟩
    · exact hne rfl
    · exact (k2 j hj).2 (by rw [e j hj]; exact hw)
  · rcases h' with ⟨-, -, m2⟩ | ⟨rfl, -⟩
    · exact (m2 j hj).2 (by rw [← e j hj]; exact hw)
    · exact hne rfl
/-- an object of exactly C is an instance of C -/
theorem cinst {p : Program} {l : Launch} {e : Env} {R : Room} {s : State} {m : MethodId} {args : Array Value} {below : List Frame} {meth : Method} {c : Code} {T : State} {locs : List Loc} {cells slots : Nat} (X : Stand p l e R s m args below meth c T locs cells slots) (hexec : p.tables.exec = Jvm.exec) {own C : String} {index : Nat} (hown : s.vm.findClass own = some m.cls) (hlink : (Cond.classLink own index C).before args s = true) {a : Addr} (hE : Exact C a T)
    {g : JFrame} (hg : g.method = m) {rest : List Value} (hstack : g.stack = .ref a :: rest) (hdg : decode c.code g.pc = .ok (.instanceof index, 3)) :
    ∃ T', Stand p l e R s m args below meth c T' locs cells slots ∧ T'.heap = T.heap ∧ ∀ target, Steps p.tables e below (T'.setTop { g with pc := g.pc + 3, stack := .int 1 :: rest }) target → Steps p.tables e below (T.setTop g) target := by
  obtain ⟨cB, h1, D, h2, h3, h4⟩ := hE
  have h1' : s.vm.findClass C = some cB := by rw [← X.warmed.alike.findClass]; exact h1
  obtain ⟨vm', X', st⟩ := X.instanceofYes hexec hown hlink h2 h4 h1' (by rw [h3]; exact Jvm.Free.SB.assignable_self _ _) hg hstack hdg
  exact ⟨_, X', rfl, st⟩
theorem cself {p : Program} {l : Launch} {e : Env} {R : Room} {s : State} {m : MethodId} {args : Array Value} {below : List Frame} {meth : Method} {c : Code} {T : State} {locs : List Loc} {cells slots : Nat} (X : Stand p l e R s m args below meth c T locs cells slots) (hexec : p.tables.exec = Jvm.exec) {own C : String} {index : Nat} (hown : s.vm.findClass own = some m.cls) (hlink : (Cond.classLink own index C).before args s = true) {a : Addr} (hE : Exact C a T)
    {g : JFrame} (hg : g.method = m) {rest : List Value} (hstack : g.stack = .ref a :: rest) (hdg : decode c.code g.pc = .ok (.checkcast index, 3)) :
    ∃ T', Stand p l e R s m args below meth c T' locs cells slots ∧ T'.heap = T.heap ∧ ∀ target, Steps p.tables e below (T'.setTop { g with pc := g.pc + 3, stack := .ref a :: rest }) target → Steps p.tables e below (T.setTop g) target := by
  obtain ⟨cB, h1, D, h2, h3, h4⟩ := hE
  have h1' : s.vm.findClass C = some cB := by rw [← X.warmed.alike.findClass]; exact h1
  obtain ⟨vm', X', st⟩ := X.checkcastYes hexec hown hlink h2 h4 h1' (by rw [h3]; exact Jvm.Free.SB.assignable_self _ _) hg hstack hdg
  exact ⟨_, X', rfl, fun t h => st t (by rw [← hstack] at h; exact h)⟩
namespace SEq
def yN : MethodName := ⟨"java/lang/String", "equals", "(Ljava/lang/Object;)Z"⟩
abbrev yB : ByteArray := jdk_42_method_66_code
theorem d0 : decode yB 0 = .ok (.aload_n 0, 1) := by decide +kernel
theorem d1 : decode yB 1 = .ok (.aload_n 1, 1) := by decide +kernel
theorem d2 : decode yB 2 = .ok (.if_acmp (.ne) 5, 3) := by decide +kernel
theorem d5 : decode yB 5 = .ok (.iconst 1, 1) := by decide +kernel
theorem d6 : decode yB 6 = .ok (.ireturn, 1) := by decide +kernel
theorem d7 : decode yB 7 = .ok (.aload_n 1, 1) := by decide +kernel
theorem d8 : decode yB 8 = .ok (.instanceof 10, 3) := by decide +kernel
theorem d11 : decode yB 11 = .ok (.ifCond (.eq) 43, 3) := by decide +kernel
theorem d14 : decode yB 14 = .ok (.aload_n 1, 1) := by decide +kernel
theorem d15 : decode yB 15 = .ok (.checkcast 10, 3) := by decide +kernel
theorem d18 : decode yB 18 = .ok (.astore_n 2, 1) := by decide +kernel
theorem d19 : decode yB 19 = .ok (.getstatic 38, 3) := by decide +kernel
theorem d22 : decode yB 22 = .ok (.ifCond (.eq) 14, 3) := by decide +kernel
theorem d25 : decode yB 25 = .ok (.aload_n 0, 1) := by decide +kernel
theorem d26 : decode yB 26 = .ok (.getfield 15, 3) := by decide +kernel
theorem d29 : decode yB 29 = .ok (.aload_n 2, 1) := by decide +kernel
theorem d30 : decode yB 30 = .ok (.getfield 15, 3) := by decide +kernel
theorem d33 : decode yB 33 = .ok (.if_icmp (.ne) 21, 3) := by decide +kernel
theorem d36 : decode yB 36 = .ok (.aload_n 0, 1) := by decide +kernel
theorem d37 : decode yB 37 = .ok (.getfield 9, 3) := by decide +kernel
theorem d40 : decode yB 40 = .ok (.aload_n 2, 1) := by decide +kernel
theorem d41 : decode yB 41 = .ok (.getfield 9, 3) := by decide +kernel
theorem d44 : decode yB 44 = .ok (.invokestatic 541, 3) := by decide +kernel
theorem d47 : decode yB 47 = .ok (.ifCond (.eq) 7, 3) := by decide +kernel
theorem d50 : decode yB 50 = .ok (.iconst 1, 1) := by decide +kernel
theorem d51 : decode yB 51 = .ok (.goto 4, 3) := by decide +kernel
theorem d54 : decode yB 54 = .ok (.iconst 0, 1) := by decide +kernel
theorem d55 : decode yB 55 = .ok (.ireturn, 1) := by decide +kernel
def site : List Cond := [.classLink "java/lang/String" 10 "java/lang/String", .fieldLink "java/lang/String" 38 "java/lang/String" "COMPACT_STRINGS" "Z", .fieldLink "java/lang/String" 15 "java/lang/String" "coder" "B", .fieldLink "java/lang/String" 9 "java/lang/String" "value" "[B", LEq.tab] ++ staticW "java/lang/String" 541 LEq.yN
def tab : Cond := tabOf yN yB 3 (some .boolean) site
def P (x t : Addr) (V : Cell) (cd : Int32) (n : Nat) (f : Nat → Int32) (y t' : Addr) (V' : Cell) (cd' : Int32) (k : Nat) (g : Nat → Int32) (z : Int32) (args : Array Value) (s : State) : Prop := args = #[.ref x, .ref y] ∧ Txt x t V cd n f s ∧ Txt y t' V' cd' k g s ∧ StaticIs s "java/lang/String" "COMPACT_STRINGS" "Z" (.int z) ∧ ¬ z = 0
/-- equals(Object) of two Strings: whether the texts are the same -/
theorem law (l : Launch) (x t : Addr) (V : Cell) (cd : Int32) (n : Nat) (f : Nat → Int32) (y t' : Addr) (V' : Cell) (cd' : Int32) (k : Nat) (g : Nat → Int32) (z : Int32) : Law l yN 2 1 1 14 yB 3 (some .boolean) site (P x t V cd n f y t' V' cd' k g z) (Says01 (SameT n f k g)) [] 0 0 := by
  refine Law.of_walk (plainFor_of_name (by decide +kernel)) (by decide +kernel) (by decide +kernel) (by decide) (fun _ _ h => by rw [h.1]; rfl) (fun _ U U' hal hh h => ⟨h.1, h.2.1.mv hal hh, h.2.2.1.mv hal hh, h.2.2.2.1.there hal hh, h.2.2.2.2⟩) (fun r U U' V V' h1 hal h2 h => Says01.mv r U U' V V' h1 hal h2 h) ?_
  intro p e s m args below meth c s₁ X0 hexec hbytes hml hret hlk hnm hown hh0 W hP
  obtain ⟨rfl, hx, hy, s1, hz⟩ := hP
  have c1 : Steps p.tables e below (s₁.setTop (entryFrame m #[.ref x, .ref y] 3)) (s₁.setTop (mkF m 2 #[.val (.ref x), .val (.ref y), .unset] [.ref y, .ref x])) := Steps.trans (entry rfl) (by
    show Steps p.tables e below (s₁.setTop (mkF m 0 #[.val (.ref x), .val (.ref y), .unset] [])) _
    refine XS.aloadN X0.here hexec rfl (hb hbytes d0) rfl rfl ?_
    refine XS.aloadN X0.here hexec rfl (hb hbytes d1) rfl rfl ?_
    exact Steps.refl _)
  by_cases hxy : x = y
  · have c2 : Steps p.tables e below (s₁.setTop (entryFrame m #[.ref x, .ref y] 3)) (s₁.setTop (mkF m 6 #[.val (.ref x), .val (.ref y), .unset] [.int 1])) := c1.trans (by
      refine acmpNo X0.here hexec rfl (hb hbytes d2) rfl rfl rfl (by simp [acmp, hxy]) ?_
      refine iconstV X0.here hexec rfl 1 (hb hbytes d5) (by decide) ?_
      exact Steps.refl _)
    subst hxy
    have ec : cd = cd' := by
      obtain ⟨D, fd, a1, a2, a3⟩ := hx.2.2.1
      obtain ⟨D', fd', b1, b2, b3⟩ := hy.2.2.1
      cases a1.symm.trans b1
      obtain ⟨q1, q2, q3, q4⟩ := a2.1
      obtain ⟨r1, r2, r3, r4⟩ := b2.1
      cases q4.symm.trans r4
      cases a3.symm.trans b3; rfl
    have et : t = t' := by
      obtain ⟨D, fd, a1, a2, a3⟩ := hx.2.1
      obtain ⟨D', fd', b1, b2, b3⟩ := hy.2.1
      cases a1.symm.trans b1
      obtain ⟨q1, q2, q3, q4⟩ := a2.1
      obtain ⟨r1, r2, r3, r4⟩ := b2.1
      cases q4.symm.trans r4
      cases a3.symm.trans b3; rfl
    subst ec et
    have ev : V = V' := by cases hx.2.2.2.1.1.symm.trans hy.2.2.2.1.1; rfl
    subst ev
    have hs : SameT n f k g := (Cod.eqv hx.2.2.2.2.1 hy.2.2.2.2.1 hx.2.2.2.2.2 hy.2.2.2.2.2).mp ⟨rfl, fun _ _ => rfl⟩
    exact ⟨s₁, some (.int 1), _, _, _, X0, rfl, rfl, rfl, (fun h => by cases h), ⟨1, rfl, hh0, Or.inl ⟨rfl, hs⟩⟩, fun fs hl => c2.trans (X0.ireturnOut hexec hret rfl (Or.inr (Or.inl rfl)) (hb hbytes d6) hl)⟩
  · have c2 : Steps p.tables e below (s₁.setTop (entryFrame m #[.ref x, .ref y] 3)) (s₁.setTop (mkF m 8 #[.val (.ref x), .val (.ref y), .unset] [.ref y])) := c1.trans (by
      refine acmpYes X0.here hexec rfl (pc0 := 2) rfl (hb hbytes d2) rfl rfl rfl (by simp [acmp, hxy]) (by decide) rfl ?_
      refine XS.aloadN X0.here hexec rfl (hb hbytes d7) rfl rfl ?_
      exact Steps.refl _)
    obtain ⟨T3, X3, q3, st3⟩ := cinst X0 hexec hown (wk W (.classLink "java/lang/String" 10 "java/lang/String")) (hy.mv X0.warmed.alike hh0).1 (g := (mkF m 8 #[.val (.ref x), .val (.ref y), .unset] [.ref y])) rfl (rest := []) rfl (hb hbytes d8)
    have hh3 := q3.trans hh0
    have c4 : Steps p.tables e below (s₁.setTop (entryFrame m #[.ref x, .ref y] 3)) (T3.setTop (mkF m 15 #[.val (.ref x), .val (.ref y), .unset] [.ref y])) := (c2.trans (st3 _ (Steps.refl _))).trans (by
      refine XS.ifNo X3.here hexec rfl (hb hbytes d11) rfl (i0_eq_f (by decide)) ?_
      refine XS.aloadN X3.here hexec rfl (hb hbytes d14) rfl rfl ?_
      exact Steps.refl _)
    obtain ⟨T5, X5, q5, st5⟩ := cself X3 hexec hown (wk W (.classLink "java/lang/String" 10 "java/lang/String")) (hy.mv X3.warmed.alike hh3).1 (g := (mkF m 15 #[.val (.ref x), .val (.ref y), .unset] [.ref y])) rfl (rest := []) rfl (hb hbytes d15)
    have hh5 := q5.trans hh3
    have c6 : Steps p.tables e below (s₁.setTop (entryFrame m #[.ref x, .ref y] 3)) (T5.setTop (mkF m 19 #[.val (.ref x), .val (.ref y), .val (.ref y)] [])) := (c4.trans (st5 _ (Steps.refl _))).trans (by
      refine XS.astoreN X5.here hexec rfl (hb hbytes d18) rfl rfl rfl ?_
      exact Steps.refl _)
    obtain ⟨T7, X7, q7, st7⟩ := X5.sget hexec hown (wk W (.fieldLink "java/lang/String" 38 "java/lang/String" "COMPACT_STRINGS" "Z")) s1 (fun _ _ h => by rw [hh5]; exact h) (g := (mkF m 19 #[.val (.ref x), .val (.ref y), .val (.ref y)] [])) rfl (hb hbytes d19)
    have hh7 := q7.trans hh5
    have c8 : Steps p.tables e below (s₁.setTop (entryFrame m #[.ref x, .ref y] 3)) (T7.setTop (mkF m 26 #[.val (.ref x), .val (.ref y), .val (.ref y)] [.ref x])) := (c6.trans (st7 _ (Steps.refl _))).trans (by
      refine XS.ifNo X7.here hexec rfl (hb hbytes d22) rfl (i0_eq_f hz) ?_
      refine XS.aloadN X7.here hexec rfl (hb hbytes d25) rfl rfl ?_
      exact Steps.refl _)
    obtain ⟨T9, X9, q9, st9⟩ := X7.hget hexec hown (wk W (.fieldLink "java/lang/String" 15 "java/lang/String" "coder" "B")) (hx.mv X7.warmed.alike hh7).2.2.1 (g := (mkF m 26 #[.val (.ref x), .val (.ref y), .val (.ref y)] [.ref x])) rfl (rest := []) rfl (hb hbytes d26)
    have hh9 := q9.trans hh7
    have c10 : Steps p.tables e below (s₁.setTop (entryFrame m #[.ref x, .ref y] 3)) (T9.setTop (mkF m 30 #[.val (.ref x), .val (.ref y), .val (.ref y)] [.ref y, .int cd])) := (c8.trans (st9 _ (Steps.refl _))).trans (by
      refine XS.aloadN X9.here hexec rfl (hb hbytes d29) rfl rfl ?_
      exact Steps.refl _)
    obtain ⟨T11, X11, q11, st11⟩ := X9.hget hexec hown (wk W (.fieldLink "java/lang/String" 15 "java/lang/String" "coder" "B")) (hy.mv X9.warmed.alike hh9).2.2.1 (g := (mkF m 30 #[.val (.ref x), .val (.ref y), .val (.ref y)] [.ref y, .int cd])) rfl (rest := [.int cd]) rfl (hb hbytes d30)
    have hh11 := q11.trans hh9
    have c12 : Steps p.tables e below (s₁.setTop (entryFrame m #[.ref x, .ref y] 3)) (T11.setTop (mkF m 33 #[.val (.ref x), .val (.ref y), .val (.ref y)] [.int cd', .int cd])) := c10.trans (st11 _ (Steps.refl _))
    by_cases hcd : cd = cd'
    · subst hcd
      have c13 : Steps p.tables e below (s₁.setTop (entryFrame m #[.ref x, .ref y] 3)) (T11.setTop (mkF m 37 #[.val (.ref x), .val (.ref y), .val (.ref y)] [.ref x])) := c12.trans (by
        refine XS.icmpNo X11.here hexec rfl (hb hbytes d33) rfl (ii_ne_f rfl) ?_
        refine XS.aloadN X11.here hexec rfl (hb hbytes d36) rfl rfl ?_
        exact Steps.refl _)
      obtain ⟨T14, X14, q14, st14⟩ := X11.hget hexec hown (wk W (.fieldLink "java/lang/String" 9 "java/lang/String" "value" "[B")) (hx.mv X11.warmed.alike hh11).2.1 (g := (mkF m 37 #[.val (.ref x), .val (.ref y), .val (.ref y)] [.ref x])) rfl (rest := []) rfl (hb hbytes d37)
      have hh14 := q14.trans hh11
      have c15 : Steps p.tables e below (s₁.setTop (entryFrame m #[.ref x, .ref y] 3)) (T14.setTop (mkF m 41 #[.val (.ref x), .val (.ref y), .val (.ref y)] [.ref y, .ref t])) := (c13.trans (st14 _ (Steps.refl _))).trans (by
        refine XS.aloadN X14.here hexec rfl (hb hbytes d40) rfl rfl ?_
        exact Steps.refl _)
      obtain ⟨T16, X16, q16, st16⟩ := X14.hget hexec hown (wk W (.fieldLink "java/lang/String" 9 "java/lang/String" "value" "[B")) (hy.mv X14.warmed.alike hh14).2.1 (g := (mkF m 41 #[.val (.ref x), .val (.ref y), .val (.ref y)] [.ref y, .ref t])) rfl (rest := [.ref t]) rfl (hb hbytes d41)
      have hh16 := q16.trans hh14
      have c17 : Steps p.tables e below (s₁.setTop (entryFrame m #[.ref x, .ref y] 3)) (T16.setTop (mkF m 44 #[.val (.ref x), .val (.ref y), .val (.ref y)] [.ref t', .ref t])) := c15.trans (st16 _ (Steps.refl _))
      obtain ⟨v18, T18, X18, E18, g18⟩ := X16.callS hexec (LEq.law l t V t' V') hown (wks W (staticW "java/lang/String" 541 LEq.yN)) (wk W LEq.tab) (W := 0) (Nat.le_of_ble_eq_true rfl) (Nat.le_of_ble_eq_true rfl) (Nat.le_refl _) (Nat.le_refl _) (g := (mkF m 44 #[.val (.ref x), .val (.ref y), .val (.ref y)] [.ref t', .ref t])) rfl (by rw [hml]; rfl) c17 (argsL := [.ref t, .ref t']) (rest := []) rfl rfl (by show 2 * 0 + 0 ≤ _; decide) (hb hbytes d44) (⟨rfl, hx.2.2.2.1.mv X16.warmed.alike hh16, hx.2.2.2.2.1.ty, hy.2.2.2.1.mv X16.warmed.alike hh16, hy.2.2.2.2.1.ty⟩)
      obtain ⟨v, rfl, q18, hv⟩ := E18
      have iff := Cod.eqv hx.2.2.2.2.1 hy.2.2.2.2.1 hx.2.2.2.2.2 hy.2.2.2.2.2
      rcases hv with ⟨rfl, he⟩ | ⟨rfl, he⟩
      · have c19 : Steps p.tables e below (s₁.setTop (entryFrame m #[.ref x, .ref y] 3)) (T18.setTop (mkF m 55 #[.val (.ref x), .val (.ref y), .val (.ref y)] [.int 1])) := Steps.trans g18 (by
          refine XS.ifNo X18.here hexec rfl (hb hbytes d47) rfl (i0_eq_f (by decide)) ?_
          refine iconstV X18.here hexec rfl 1 (hb hbytes d50) (by decide) ?_
          refine XS.goto X18.here hexec rfl (pc0 := 51) rfl (hb hbytes d51) (by decide) rfl ?_
          exact Steps.refl _)
        exact ⟨T18, some (.int 1), _, _, _, X18, rfl, rfl, rfl, (fun h => by cases h), ⟨1, rfl, q18.trans hh16, Or.inl ⟨rfl, iff.mp he⟩⟩, fun fs hl => c19.trans (X18.ireturnOut hexec hret rfl (Or.inr (Or.inl rfl)) (hb hbytes d55) hl)⟩
      · have c19 : Steps p.tables e below (s₁.setTop (entryFrame m #[.ref x, .ref y] 3)) (T18.setTop (mkF m 55 #[.val (.ref x), .val (.ref y), .val (.ref y)] [.int 0])) := Steps.trans g18 (by
          refine XS.ifYes X18.here hexec rfl (pc0 := 47) rfl (hb hbytes d47) rfl (i0_eq_t rfl) (by decide) rfl ?_
          refine iconstV X18.here hexec rfl 0 (hb hbytes d54) (by decide) ?_
          exact Steps.refl _)
        exact ⟨T18, some (.int 0), _, _, _, X18, rfl, rfl, rfl, (fun h => by cases h), ⟨0, rfl, q18.trans hh16, Or.inr ⟨rfl, fun q => he (iff.mpr q)⟩⟩, fun fs hl => c19.trans (X18.ireturnOut hexec hret rfl (Or.inr (Or.inl rfl)) (hb hbytes d55) hl)⟩
    · have c13 : Steps p.tables e below (s₁.setTop (entryFrame m #[.ref x, .ref y] 3)) (T11.setTop (mkF m 55 #[.val (.ref x), .val (.ref y), .val (.ref y)] [.int 0])) := c12.trans (by
        refine XS.icmpYes X11.here hexec rfl (pc0 := 33) rfl (hb hbytes d33) rfl (ii_ne_t hcd) (by decide) rfl ?_
        refine iconstV X11.here hexec rfl 0 (hb hbytes d54) (by decide) ?_
        exact Steps.refl _)
      exact ⟨T11, some (.int 0), _, _, _, X11, rfl, rfl, rfl, (fun h => by cases h), ⟨0, rfl, hh11, Or.inr ⟨rfl, Cod.dif hx.2.2.2.2.1 hy.2.2.2.2.1 hcd⟩⟩, fun fs hl => c13.trans (X11.ireturnOut hexec hret rfl (Or.inr (Or.inl rfl)) (hb hbytes d55) hl)⟩
theorem pays {l : Launch} {R : Room} {p : Program} {e : Env} {below : List Frame} {s : State} {sargs : Array Value} {len W : Nat} (x t : Addr) (V : Cell) (cd : Int32) (n : Nat) (f : Nat → Int32) (y t' : Addr) (V' : Cell) (cd' : Int32) (k : Nat) (g : Nat → Int32) (z : Int32) (htab : tab.before sargs s = true) (hfr : 2 ≤ R.frames) (hlo : W + 28 ≤ R.locals) :
    Back l R p e below s sargs yN len W (fun A₁ a₁ => A₁.cells + 0 ≤ R.cells ∧ A₁.slots + 0 ≤ R.slots ∧ P x t V cd n f y t' V' cd' k g z a₁ A₁.U) (fun A₁ _ v₁ B₁ => Says01 (SameT n f k g) v₁ A₁.U B₁.U ∧ B₁.locs = A₁.locs ++ [] ∧ B₁.cells = A₁.cells + 0 ∧ B₁.slots = A₁.slots + 0) :=
  (law l x t V cd n f y t' V' cd' k g z).pays htab hfr (by omega)
end SEq
end StrChars
namespace StrChars.Road
open Jvm Sem ClassFile Op Lib Jvm.Stand Jvm.Free Jvm.Free.XT
open Jvm.Lib.Cold (StaticIs)
/-- the words of String.equals(Object) -/
abbrev wordsEq : List Jvm.Cond := [.code SEq.yN SEq.yB 3 (some .boolean), .initialized ST, .classLink ST 10 ST, .fieldLink ST 38 ST "COMPACT_STRINGS" "Z", .fieldLink ST 15 ST "coder" "B", .fieldLink ST 9 ST "value" "[B", .methodLink ST 541 LEq.yN, .static LEq.yN, .code LEq.yN LEq.yB 3 (some .boolean), .initialized "java/lang/StringLatin1"]
theorem tabEq_of {a : Array Value} {s : State} (h : ∀ w ∈ wordsEq, w.before a s = true) : SEq.tab.before a s = true := by
  have hl : LEq.tab.before a s = true := unparts (wk h (.code LEq.yN LEq.yB 3 (some .boolean))) (wks h (.initialized LEq.yN.cls :: LEq.site))
  have q := consq hl h
  exact unparts (wk q (.code SEq.yN SEq.yB 3 (some .boolean))) (wks q (.initialized SEq.yN.cls :: SEq.site))
theorem movedEq {Z s : State} {a0 args : Array Value} (hZ : Z.Warmed39 s.vm) (hw : ∀ d ∈ wordsEq, d.before a0 Z = true) : ∀ d ∈ wordsEq, d.before args s = true := fun d hd => by
  have t : ∀ d ∈ wordsEq, (d.onTables && d.keepsFace) = true := by decide +kernel
  exact RoadKit.mv hZ (hw d hd) (t d hd)
/-- the road's facts of a String, as the laws ask it -/
theorem txt_of {Z U : State} {a0 : Array Value} {kI : Nat} (wi : (Jvm.Cond.instantiable ST kI).before a0 Z = true) (al : Z.vm.Alike U.vm) {x t : Addr} {kb : ClassId} {cs : List Int32} {cd N2 : Int32} {vs : List Value} (E : RoadKit.Exa Z U.heap x ST) (V : RoadKit.Fld Z U.heap x ST "value" "[B" (.ref t)) (C : RoadKit.Fld Z U.heap x ST "coder" "B" (.int cd)) (K : RoadKit.Arv Z U.heap t kb .byte N2 vs (.int 0)) (hc : CodA cs cd N2 vs) (hb : ∀ c ∈ cs, ¬ c < 0 ∧ ¬ (65535 : Int32) < c) (l2 : cs.length ≤ 4000) :
    ∃ A, Txt x t A cd cs.length (fun j => cs.getD j 0) U := by
  obtain ⟨A, K1, K2, K3, K4, K5, K6⟩ := K
  have hcod := hc.cod (by omega) K3 K5
  obtain ⟨D, fV, fC, hB, F1, F2, g1, g2, -, -⟩ := strObj wi al E V C
  exact ⟨A, ⟨_, hB.2.2.1, D, hB.1, rfl, by cases q : D.vm <;> first | rfl | exact absurd q (hB.2.1.2 _)⟩, Has.of hB F1 g1, Has.of hB F2 g2, ⟨K1.1, State.isArrayOf_alike al K1.2.1, K1.2.2, by rcases hcod with ⟨-, q, -⟩ | ⟨-, q, -⟩ <;> omega⟩, hcod, fun j hj => by
    have e : cs.getD j 0 = cs[j] := by simp [List.getD_eq_getElem?_getD, hj]
    show ¬ cs.getD j 0 < 0 ∧ ¬ 65535 < cs.getD j 0
    rw [e]; exact hb _ (List.getElem_mem _)⟩
theorem same_list (cs ds : List Int32) : SameT cs.length (fun j => cs.getD j 0) ds.length (fun j => ds.getD j 0) ↔ cs = ds := by
  constructor
  · rintro ⟨e, q⟩
    refine List.ext_getElem e fun j h1 h2 => ?_
    have := q j h1
    simpa [List.getD_eq_getElem?_getD, h1, h2] using this
  · rintro rfl
    exact ⟨rfl, fun _ _ => rfl⟩
/-- **equals(Object) OF TWO SUCH STRINGS**: 1 just where the chars are the same -/
theorem eqW {p : Program} {l : Launch} {e : Env} {R : Room} {s : State} {args : Array Value} {below : List Frame} {len W : Nat} {Z : State} {a0 : Array Value} {h : Heap} (hZ : Z.Warmed39 s.vm) (hw : ∀ d ∈ wordsEq, d.before a0 Z = true) {kI : Nat} (wi : (Jvm.Cond.instantiable ST kI).before a0 Z = true)
    {x t : Addr} {kb : ClassId} {cs : List Int32} {cd N2 : Int32} {vs : List Value} (E : RoadKit.Exa Z h x ST) (V : RoadKit.Fld Z h x ST "value" "[B" (.ref t)) (C : RoadKit.Fld Z h x ST "coder" "B" (.int cd)) (K : RoadKit.Arv Z h t kb .byte N2 vs (.int 0)) (hc : CodA cs cd N2 vs) (hb : ∀ c ∈ cs, ¬ c < 0 ∧ ¬ (65535 : Int32) < c) (l2 : cs.length ≤ 4000)
    {y t' : Addr} {kb' : ClassId} {ds : List Int32} {cd' N2' : Int32} {vs' : List Value} (E' : RoadKit.Exa Z h y ST) (V' : RoadKit.Fld Z h y ST "value" "[B" (.ref t')) (C' : RoadKit.Fld Z h y ST "coder" "B" (.int cd')) (K' : RoadKit.Arv Z h t' kb' .byte N2' vs' (.int 0)) (hc' : CodA ds cd' N2' vs') (hb' : ∀ c ∈ ds, ¬ c < 0 ∧ ¬ (65535 : Int32) < c) (l2' : ds.length ≤ 4000)
    {z : Int32} (S : RoadKit.Sta Z h ST "COMPACT_STRINGS" "Z" (.int z)) (hz : ¬ z = 0) (hfr : 2 ≤ R.frames) (hlo : W + 28 ≤ R.locals) :
    Back l R p e below s args (⟨"java/lang/String", "equals", "(Ljava/lang/Object;)Z"⟩ : MethodName) len W (fun P a => a = #[.ref x, .ref y] ∧ P.U.heap = h ∧ P.cells + 0 ≤ R.cells ∧ P.slots + 0 ≤ R.slots)
      (fun P _ v B => ∃ L, (((v = some (.int 1) ∧ cs = ds) ∨ (v = some (.int 0) ∧ ¬ cs = ds)) ∧ L = [] ∧ B.U.heap = h) ∧ B.locs = P.locs ++ L ∧ B.cells = P.cells + 0 ∧ B.slots = P.slots + 0) := by
  intro m meth c P g ig mk a X hg hsize hdg hW hn hp'
  obtain ⟨rfl, rfl, r1, r2⟩ := hp'
  have al : Z.vm.Alike P.U.vm := hZ.alike.trans X.warmed.alike
  obtain ⟨A, hx⟩ := txt_of wi al E V C K hc hb l2
  obtain ⟨A', hy⟩ := txt_of wi al E' V' C' K' hc' hb' l2'
  obtain ⟨v, B, X', ⟨⟨w, hv, hh, hq⟩, hl, hk, hs⟩, st⟩ := SEq.pays x t A cd cs.length (fun j => cs.getD j 0) y t' A' cd' ds.length (fun j => ds.getD j 0) z (tabEq_of (movedEq hZ hw)) hfr hlo m meth c P g ig mk _ X hg hsize hdg hW hn ⟨r1, r2, rfl, hx, hy, sta_is al S, hz⟩
  refine ⟨v, B, X', ⟨[], ⟨?_, rfl, hh⟩, hl, hk, hs⟩, st⟩
  rcases hq with ⟨rfl, q⟩ | ⟨rfl, q⟩
  · exact Or.inl ⟨hv, (same_list cs ds).mp q⟩
  · exact Or.inr ⟨hv, fun e => q ((same_list cs ds).mpr e)⟩
end StrChars.Road
end Jvm.Pilot.@@N@@
namespace Jvm.Pilot.@@N@@
open Jvm Jvm.ClassFile Sem Op Lib Jvm.Free Jvm.Stand Jvm.LawKit Jvm.RoadKit Bundle Jvm.Pilot.@@N@@.Jvm.D
section Own
variable {p : Program} {l : Launch} {e : Env} {R : Room} {s : State} {m : MethodId} {args : Array Value} {below : List Frame} {meth : Method} {c : Code} {T : State} {locs : List Loc} {cells slots : Nat} {Z : State} {a0 : Array Value} {h : Heap}
/-- from S the invocation ends, and G holds of the end -/
def Gl (p : Program) (e : Env) (below : List Frame) (G : State → Outcome → Prop) (S : State) : Prop :=
  ∃ s₂ o, Steps p.tables e below S s₂ ∧ s₂.status = .running ∧ Ended s₂ below o ∧ G s₂ o
theorem Gl.of {G : State → Outcome → Prop} {S S' : State} (h : ∀ t, Steps p.tables e below S' t → Steps p.tables e below S t) (g : Gl p e below G S') : Gl p e below G S := by
  obtain ⟨s2, o, a, b⟩ := g
  exact ⟨s2, o, h _ a, b⟩
def Gd (s : State) (Q : Option Value → Heap → List Loc → Prop) (C N : Nat) (t : State) (o : Outcome) : Prop := ∃ v L, o = .returned v ∧ Q v t.heap L ∧ FrameEnd s o t L C N
def Con (l : Launch) (Z : State) (y : MethodName) (bytes : ByteArray) (maxL : Nat) (rt : Option FieldType) (ws : List Jvm.Cond) (rm : Room) (C N : Nat) (as : Array Value) (h : Heap) (Q : Option Value → Heap → List Loc → Prop) : Prop :=
  MetFree l y (head1 (Jvm.Cond.code y bytes maxL rt :: ws) rm) (fun a U => a = as ∧ Z.Warmed39 U.vm ∧ U.heap = h) (fun _ _ _ _ _ => True) (fun _ U o U' => ∃ v L, o = .returned v ∧ Q v U'.heap L ∧ FrameEnd U o U' L C N)
theorem Con.intro {y : MethodName} {bytes : ByteArray} {maxL : Nat} {rt : Option FieldType} {ws : List Jvm.Cond} {rm : Room} {C N : Nat} {as : Array Value} {Q : Option Value → Heap → List Loc → Prop} (hp : plainFor y = true)
    (body : ∀ p e s m below meth c s₁, Stand p l e rm s m as below meth c s₁ [] 0 0 → p.tables.exec = Jvm.exec → c.code = bytes → c.maxLocals = maxL → Z.Warmed39 s.vm → s.vm.findClass y.cls = some m.cls → meth.name = y.name → meth.sig.returnType = rt → meth.locks = false → s₁.heap = h → s.heap = h →
      Gl p e below (Gd s Q C N) (s₁.setTop (entryFrame m as maxL))) : Con l Z y bytes maxL rt ws rm C N as h Q := by
  refine MetFree.of_bodySF hp hisR ?_
  intro p e s m args below meth c s₁ Bd hml0 hP hK
  obtain ⟨rfl, hZ, hh⟩ := hP
  exact body p e s m below meth c s₁ (Stand.of_body Bd) Bd.exec Bd.bytes hml0 hZ (findClass_of_methodNamed Bd.named) (name_of_methodNamed Bd.named Bd.method).1 Bd.returns (BodyLoose.notSynchronized Bd) (by rw [← hh, Bd.state]; rfl) hh
theorem Gl.leaf {Q : Option Value → Heap → List Loc → Prop} {C N : Nat} (X : Stand p l e R s m args below meth c T locs cells slots) (hlk : meth.locks = false) {v : Option Value} (hv : meth.sig.returnType = none → v = none) {S : State}
    (st : ∀ fs, (∀ (f : JFrame) (acts : List Action), f.method = m → f.locked = none → f.entered = [] → (doReturn e (T.setTop f) acts v).1 = T.setFrames fs) → Steps p.tables e below S (T.setFrames fs)) (eT : T.heap = h) (hQ : Q v h locs) (hC : cells ≤ C) (hN : slots ≤ N) : Gl p e below (Gd s Q C N) S := by
  obtain ⟨fs, hr, hrun, hended, hW, hsame⟩ := X.leave (v := v) hv hlk
  exact ⟨_, _, st fs hr, hrun, hended, v, locs, rfl, by show Q v T.heap locs; rw [eT]; exact hQ, ⟨_, rfl⟩, hW, hsame.mono hC hN⟩
/-- ireturn of an int -/
theorem Gl.retI {Q : Option Value → Heap → List Loc → Prop} {C N : Nat} (X : Stand p l e R s m args below meth c T locs cells slots) (hx : p.tables.exec = Jvm.exec) (hlk : meth.locks = false) (hret : meth.sig.returnType = some .int) {pc : Nat} {Ls : Array Slot} {z : Int32} {rest : List Value} (hd : decode c.code pc = .ok (.ireturn, 1))
    (eT : T.heap = h) (hQ : Q (some (.int z)) h locs) (hC : cells ≤ C) (hN : slots ≤ N) : Gl p e below (Gd s Q C N) (T.setTop (mkF m pc Ls (.int z :: rest))) :=
  Gl.leaf X hlk (fun q => by rw [hret] at q; cases q) (fun fs hr => retOut X hx hret rfl (Or.inl ⟨rfl, Or.inl rfl, z, rfl⟩) hd hr) eT hQ hC hN
/-- ireturn of a boolean, byte, char, short -/
theorem Gl.retN {Q : Option Value → Heap → List Loc → Prop} {C N : Nat} (X : Stand p l e R s m args below meth c T locs cells slots) (hx : p.tables.exec = Jvm.exec) (hlk : meth.locks = false) {t : FieldType} (hret : meth.sig.returnType = some t) (ht : t = .boolean ∨ t = .byte ∨ t = .char ∨ t = .short) {pc : Nat} {Ls : Array Slot} {z : Int32} {rest : List Value} (hd : decode c.code pc = .ok (.ireturn, 1))
    (eT : T.heap = h) (hQ : Q (some (.int (nar t z))) h locs) (hC : cells ≤ C) (hN : slots ≤ N) : Gl p e below (Gd s Q C N) (T.setTop (mkF m pc Ls (.int z :: rest))) :=
  Gl.leaf X hlk (fun q => by rw [hret] at q; cases q) (fun fs hr => Jvm.RoadKit.retN X hx hret ht hd hr) eT hQ hC hN
/-- areturn -/
theorem Gl.retR {Q : Option Value → Heap → List Loc → Prop} {C N : Nat} (X : Stand p l e R s m args below meth c T locs cells slots) (hx : p.tables.exec = Jvm.exec) (hlk : meth.locks = false) {t : FieldType} (hret : meth.sig.returnType = some t) (ht : t.isReference = true) {pc : Nat} {Ls : Array Slot} {w : Value} (hw : w.isRef = true) {rest : List Value} (hd : decode c.code pc = .ok (.areturn, 1))
    (eT : T.heap = h) (hQ : Q (some w) h locs) (hC : cells ≤ C) (hN : slots ≤ N) : Gl p e below (Gd s Q C N) (T.setTop (mkF m pc Ls (w :: rest))) :=
  Gl.leaf X hlk (fun q => by rw [hret] at q; cases q) (fun fs hr => retOut X hx hret (by cases t <;> first | (cases ht; done) | (rcases ref_cases hw with rfl | ⟨_, rfl⟩ <;> rfl)) (Or.inr (Or.inr (Or.inr (Or.inr ⟨rfl, ht, hw⟩)))) hd hr) eT hQ hC hN
/-- dreturn -/
theorem Gl.retD {Q : Option Value → Heap → List Loc → Prop} {C N : Nat} (X : Stand p l e R s m args below meth c T locs cells slots) (hx : p.tables.exec = Jvm.exec) (hlk : meth.locks = false) (hret : meth.sig.returnType = some .double) {pc : Nat} {Ls : Array Slot} {z : UInt64} {rest : List Value} (hd : decode c.code pc = .ok (.dreturn, 1))
    (eT : T.heap = h) (hQ : Q (some (.double z)) h locs) (hC : cells ≤ C) (hN : slots ≤ N) : Gl p e below (Gd s Q C N) (T.setTop (mkF m pc Ls (.double z :: rest))) :=
  Gl.leaf X hlk (fun q => by rw [hret] at q; cases q) (fun fs hr => retOut X hx hret rfl (Or.inr (Or.inr (Or.inl ⟨rfl, rfl, z, rfl⟩))) hd hr) eT hQ hC hN
/-- return -/
theorem Gl.ret0 {Q : Option Value → Heap → List Loc → Prop} {C N : Nat} (X : Stand p l e R s m args below meth c T locs cells slots) (hx : p.tables.exec = Jvm.exec) (hlk : meth.locks = false) (hret : meth.sig.returnType = none) {pc : Nat} {Ls : Array Slot} (hd : decode c.code pc = .ok (.return_, 1))
    (eT : T.heap = h) (hQ : Q none h locs) (hC : cells ≤ C) (hN : slots ≤ N) : Gl p e below (Gd s Q C N) (T.setTop (mkF m pc Ls [])) :=
  Gl.leaf X hlk (fun _ => rfl) (fun fs hr => X.returnOut hx hret hd hr) eT hQ hC hN
/-- the end of a walk that may have interned -/
def GdW (s : State) (Q : Option Value → Heap → List Loc → Prop) (C N : Nat) (t : State) (o : Outcome) : Prop := ∃ v L, o = .returned v ∧ Q v t.heap L ∧ ReturnedEndW s o t L C N
def ConW (l : Launch) (Z : State) (y : MethodName) (bytes : ByteArray) (maxL : Nat) (rt : Option FieldType) (ws : List Jvm.Cond) (rm : Room) (C N : Nat) (as : Array Value) (h : Heap) (Q : Option Value → Heap → List Loc → Prop) : Prop :=
  MetFree l y (head1 (Jvm.Cond.code y bytes maxL rt :: ws) rm) (fun a U => a = as ∧ Z.Warmed39 U.vm ∧ U.heap = h) (fun _ _ _ _ _ => True) (fun _ U o U' => ∃ v L, o = .returned v ∧ Q v U'.heap L ∧ ReturnedEndW U o U' L C N)
theorem ConW.intro {y : MethodName} {bytes : ByteArray} {maxL : Nat} {rt : Option FieldType} {ws : List Jvm.Cond} {rm : Room} {C N : Nat} {as : Array Value} {Q : Option Value → Heap → List Loc → Prop} (hp : plainFor y = true)
    (body : ∀ p e s m below meth c s₁, Stand p l e rm s m as below meth c s₁ [] 0 0 → p.tables.exec = Jvm.exec → c.code = bytes → c.maxLocals = maxL → Z.Warmed39 s.vm → s.vm.findClass y.cls = some m.cls → meth.name = y.name → meth.sig.returnType = rt → meth.locks = false → s₁.heap = h → s.heap = h →
      Gl p e below (GdW s Q C N) (s₁.setTop (entryFrame m as maxL))) : ConW l Z y bytes maxL rt ws rm C N as h Q := by
  refine MetFree.of_bodySF hp hisR ?_
  intro p e s m args below meth c s₁ Bd hml0 hP hK
  obtain ⟨rfl, hZ, hh⟩ := hP
  exact body p e s m below meth c s₁ (Stand.of_body Bd) Bd.exec Bd.bytes hml0 hZ (findClass_of_methodNamed Bd.named) (name_of_methodNamed Bd.named Bd.method).1 Bd.returns (BodyLoose.notSynchronized Bd) (by rw [← hh, Bd.state]; rfl) hh
theorem Gl.leafW {Q : Option Value → Heap → List Loc → Prop} {C N n : Nat} {vm₁ : Vm} (X : Stand p l e R (s.setVm vm₁) m args below meth c T locs cells slots) (hlk : meth.locks = false) {v : Option Value} (hv : meth.sig.returnType = none → v = none) {S : State}
    (st : ∀ fs, (∀ (f : JFrame) (acts : List Action), f.method = m → f.locked = none → f.entered = [] → (doReturn e (T.setTop f) acts v).1 = T.setFrames fs) → Steps p.tables e below S (T.setFrames fs)) (eT : T.heap = h) (hQ : Q v h locs) (hS : s.Since vm₁ n) (hn : n ≤ h.size) (hC : cells ≤ C) (hN : slots ≤ N) : Gl p e below (GdW s Q C N) S := by
  obtain ⟨fs, hr, hrun, hended, hW⟩ := X.leaveW hS (by rw [eT]; exact hn) (v := v) hv hlk
  exact ⟨_, _, st fs hr, hrun, hended, v, locs, rfl, by show Q v T.heap locs; rw [eT]; exact hQ, hW.1, hW.2.1, hW.2.2.1, hW.2.2.2.mono hC hN⟩
theorem Gl.retNW {Q : Option Value → Heap → List Loc → Prop} {C N n : Nat} {vm₁ : Vm} (X : Stand p l e R (s.setVm vm₁) m args below meth c T locs cells slots) (hx : p.tables.exec = Jvm.exec) (hlk : meth.locks = false) {t : FieldType} (hret : meth.sig.returnType = some t) (ht : t = .boolean ∨ t = .byte ∨ t = .char ∨ t = .short) {pc : Nat} {Ls : Array Slot} {z : Int32} {rest : List Value} (hd : decode c.code pc = .ok (.ireturn, 1))
    (eT : T.heap = h) (hQ : Q (some (.int (nar t z))) h locs) (hS : s.Since vm₁ n) (hn : n ≤ h.size) (hC : cells ≤ C) (hN : slots ≤ N) : Gl p e below (GdW s Q C N) (T.setTop (mkF m pc Ls (.int z :: rest))) :=
  Gl.leafW X hlk (fun q => by rw [hret] at q; cases q) (fun fs hr => Jvm.RoadKit.retN X hx hret ht hd hr) eT hQ hS hn hC hN
theorem Gl.retRW {Q : Option Value → Heap → List Loc → Prop} {C N n : Nat} {vm₁ : Vm} (X : Stand p l e R (s.setVm vm₁) m args below meth c T locs cells slots) (hx : p.tables.exec = Jvm.exec) (hlk : meth.locks = false) {t : FieldType} (hret : meth.sig.returnType = some t) (ht : t.isReference = true) {pc : Nat} {Ls : Array Slot} {w : Value} (hw : w.isRef = true) {rest : List Value} (hd : decode c.code pc = .ok (.areturn, 1))
    (eT : T.heap = h) (hQ : Q (some w) h locs) (hS : s.Since vm₁ n) (hn : n ≤ h.size) (hC : cells ≤ C) (hN : slots ≤ N) : Gl p e below (GdW s Q C N) (T.setTop (mkF m pc Ls (w :: rest))) :=
  Gl.leafW X hlk (fun q => by rw [hret] at q; cases q) (fun fs hr => retOut X hx hret (by cases t <;> first | (cases ht; done) | (rcases ref_cases hw with rfl | ⟨_, rfl⟩ <;> rfl)) (Or.inr (Or.inr (Or.inr (Or.inr ⟨rfl, ht, hw⟩)))) hd hr) eT hQ hS hn hC hN
theorem Gl.ret0W {Q : Option Value → Heap → List Loc → Prop} {C N n : Nat} {vm₁ : Vm} (X : Stand p l e R (s.setVm vm₁) m args below meth c T locs cells slots) (hx : p.tables.exec = Jvm.exec) (hlk : meth.locks = false) (hret : meth.sig.returnType = none) {pc : Nat} {Ls : Array Slot} (hd : decode c.code pc = .ok (.return_, 1))
    (eT : T.heap = h) (hQ : Q none h locs) (hS : s.Since vm₁ n) (hn : n ≤ h.size) (hC : cells ≤ C) (hN : slots ≤ N) : Gl p e below (GdW s Q C N) (T.setTop (mkF m pc Ls [])) :=
  Gl.leafW X hlk (fun _ => rfl) (fun fs hr => X.returnOut hx hret hd hr) eT hQ hS hn hC hN
theorem ref_nar {r : Value} {C : String} (h : r.isRef = true) : narrow (.object C) r = r := by rcases ref_cases h with rfl | ⟨_, rfl⟩ <;> rfl
theorem ref_fit {r : Value} {C : String} (h : r.isRef = true) : fits (.object C) r = true := by rcases ref_cases h with rfl | ⟨_, rfl⟩ <;> rfl
theorem cat_ref {r : Value} (h : r.isRef = true) : r.category = 1 := by rcases ref_cases h with rfl | ⟨_, rfl⟩ <;> rfl
/-- what a callee that writes and makes nothing leaves -/
def Pur (F : Option Value → Prop) (h0 : Heap) (v : Option Value) (h : Heap) (L : List Loc) : Prop := F v ∧ h = h0 ∧ L = []
theorem desc_ne {n : String} (h : (n == "java/lang/invoke/MethodHandle" || n == "java/lang/invoke/VarHandle") = false) : n ≠ "java/lang/invoke/MethodHandle" ∧ n ≠ "java/lang/invoke/VarHandle" := by
  simp only [Bool.or_eq_false_iff, beq_eq_false_iff_ne, ne_eq] at h
  exact h
/-- a static call by its contract -/
theorem Gl.callS {G : State → Outcome → Prop} (X : Stand p l e R s m args below meth c T locs cells slots) (hx : p.tables.exec = Jvm.exec) (hZ : Z.Warmed39 s.vm) {own : String} {index : Nat} {y : MethodName} {bytes : ByteArray} {maxL : Nat} {rt : Option FieldType} (hown : s.vm.findClass own = some m.cls)
    (w1 : (Jvm.Cond.methodLink own index y).before a0 Z = true) (w2 : (Jvm.Cond.static y).before a0 Z = true) (w3 : (Jvm.Cond.initialized y.cls).before a0 Z = true) (w4 : (Jvm.Cond.code y bytes maxL rt).before a0 Z = true) (hy : y.cls ≠ "java/lang/invoke/MethodHandle" ∧ y.cls ≠ "java/lang/invoke/VarHandle")
    {rm : Room} {Q : Option Value → Heap → List Loc → Prop} {argsL rest : List Value} (hM : Con l Z y bytes maxL rt [] rm rm.cells rm.slots argsL.toArray h Q) (W : Nat) (hf : rm.frames + 1 ≤ R.frames) (hl : W + (maxL + 11) + rm.locals ≤ R.locals) (hcl : cells + rm.cells ≤ R.cells) (hsl : slots + rm.slots ≤ R.slots) (eT : T.heap = h)
    {pc : Nat} {Ls : Array Slot} {st : List Value} (hsz : Ls.size = c.maxLocals) {ps : List FieldType} {r' : Option FieldType} (hds : parseMethodDescriptor y.desc = some ⟨ps, r'⟩) (hlen : argsL.length = ps.length) (hst : st = argsL.reverse ++ rest) (hW : 2 * 0 + (rest.map fun v => v.category).sum ≤ W) (hd : decode c.code pc = .ok (.invokestatic index, 3))
    (k : ∀ (v : Option Value) (T' : State) (L : List Loc), Stand p l e R s m args below meth c T' (locs ++ L) (cells + rm.cells) (slots + rm.slots) → Q v T'.heap L → Gl p e below G (T'.setTop (mkF m (pc + 3) Ls (v.toList ++ rest)))) : Gl p e below G (T.setTop (mkF m pc Ls st)) := by
  obtain ⟨v, _, ⟨T', L', k', n'⟩, -, X', ⟨Lc, hQ, l1, y1, z1⟩, stp⟩ := Jvm.LawKit.callS X hx (y := y) hown (mvT hZ w1) (mvT hZ w2) (mvT hZ w3) (mvT hZ w4) hy (backOf (W := W) hM hZ w4 w3 hf hl) (g := mkF m pc Ls st) rfl hsz (argsL := argsL) (rest := rest) (lenOf hds hlen) hst hW hd (fun _ _ => ⟨rfl, eT, hcl, hsl⟩)
  dsimp only [Pt.U, Pt.locs, Pt.cells, Pt.slots] at X' l1 y1 z1 stp hQ
  subst l1 y1 z1
  exact Gl.of stp (k v T' Lc X' hQ)
theorem Gl.callS0 {G : State → Outcome → Prop} (X : Stand p l e R s m args below meth c T locs cells slots) (hx : p.tables.exec = Jvm.exec) (hZ : Z.Warmed39 s.vm) {own : String} {index : Nat} {y : MethodName} {bytes : ByteArray} {maxL : Nat} {rt : Option FieldType} (hown : s.vm.findClass own = some m.cls)
    (w1 : (Jvm.Cond.methodLink own index y).before a0 Z = true) (w2 : (Jvm.Cond.static y).before a0 Z = true) (w3 : (Jvm.Cond.initialized y.cls).before a0 Z = true) (w4 : (Jvm.Cond.code y bytes maxL rt).before a0 Z = true) (hy : y.cls ≠ "java/lang/invoke/MethodHandle" ∧ y.cls ≠ "java/lang/invoke/VarHandle")
    {fr lo : Nat} {F : Option Value → Prop} {argsL rest : List Value} (hM : Con l Z y bytes maxL rt [] ({ frames := fr, cells := 0, slots := 0, locals := lo } : Room) 0 0 argsL.toArray h (Pur F h)) (W : Nat) (hf : fr + 1 ≤ R.frames) (hl : W + (maxL + 11) + lo ≤ R.locals) (eT : T.heap = h)
    {pc : Nat} {Ls : Array Slot} {st : List Value} (hsz : Ls.size = c.maxLocals) {ps : List FieldType} {r' : Option FieldType} (hds : parseMethodDescriptor y.desc = some ⟨ps, r'⟩) (hlen : argsL.length = ps.length) (hst : st = argsL.reverse ++ rest) (hW : 2 * 0 + (rest.map fun v => v.category).sum ≤ W) (hd : decode c.code pc = .ok (.invokestatic index, 3)) (hcl : cells ≤ R.cells) (hsl : slots ≤ R.slots)
    (k : ∀ (v : Option Value) (T' : State), Stand p l e R s m args below meth c T' locs cells slots → T'.heap = h → F v → Gl p e below G (T'.setTop (mkF m (pc + 3) Ls (v.toList ++ rest)))) : Gl p e below G (T.setTop (mkF m pc Ls st)) := by
  refine Gl.callS X hx hZ hown w1 w2 w3 w4 hy hM W hf hl hcl hsl eT hsz hds hlen hst hW hd ?_
  intro v T' L X' hQ
  obtain ⟨q1, q2, rfl⟩ := hQ
  rw [List.append_nil] at X'
  exact k v T' X' q2 q1
/-- an instance method that the receiver's class selects, by its contract -/
theorem Gl.callV {G : State → Outcome → Prop} (X : Stand p l e R s m args below meth c T locs cells slots) (hx : p.tables.exec = Jvm.exec) (hZ : Z.Warmed39 s.vm) {own C : String} {index : Nat} {y z : MethodName} {bytes : ByteArray} {maxL : Nat} {rt : Option FieldType} (hown : s.vm.findClass own = some m.cls)
    (w1 : (Jvm.Cond.methodLink own index y).before a0 Z = true) (w2 : (Jvm.Cond.declares y).before a0 Z = true) (nf : NotFace s y) (w3 : (Jvm.Cond.selects C y z).before a0 Z = true) (w4 : (Jvm.Cond.instanceMethod z).before a0 Z = true) (w5 : (Jvm.Cond.code z bytes maxL rt).before a0 Z = true) (w6 : (Jvm.Cond.initialized z.cls).before a0 Z = true) (hy : y.cls ≠ "java/lang/invoke/MethodHandle" ∧ y.cls ≠ "java/lang/invoke/VarHandle")
    {rm : Room} {Q : Option Value → Heap → List Loc → Prop} {b : Addr} {argsL rest : List Value} (hE : Exa Z h b C) (hM : Con l Z z bytes maxL rt [] rm rm.cells rm.slots (.ref b :: argsL).toArray h Q) (W : Nat) (hf : rm.frames + 1 ≤ R.frames) (hl : W + (maxL + 11) + rm.locals ≤ R.locals) (hcl : cells + rm.cells ≤ R.cells) (hsl : slots + rm.slots ≤ R.slots) (eT : T.heap = h)
    {pc : Nat} {Ls : Array Slot} {st : List Value} (hsz : Ls.size = c.maxLocals) {ps : List FieldType} {r' : Option FieldType} (hds : parseMethodDescriptor y.desc = some ⟨ps, r'⟩) (hlen : argsL.length = ps.length) (hst : st = argsL.reverse ++ .ref b :: rest) (hW : 2 * 0 + (rest.map fun v => v.category).sum ≤ W) (hd : decode c.code pc = .ok (.invokevirtual index, 3))
    (k : ∀ (v : Option Value) (T' : State) (L : List Loc), Stand p l e R s m args below meth c T' (locs ++ L) (cells + rm.cells) (slots + rm.slots) → Q v T'.heap L → Gl p e below G (T'.setTop (mkF m (pc + 3) Ls (v.toList ++ rest)))) : Gl p e below G (T.setTop (mkF m pc Ls st)) := by
  obtain ⟨cq, kq, qa, qb, qc⟩ := isOf hZ eT hE
  obtain ⟨v, _, ⟨T', L', k', n'⟩, -, X', ⟨Lc, hQ, l1, y1, z1⟩, stp⟩ := X.virtualBack hx (y := y) (z := z) hown (mvT hZ w1) (mvT hZ w2) nf (mvT hZ w3) (mvT hZ w4) hy (backOf (W := W) hM hZ w5 w6 hf hl) qa qc (g := mkF m pc Ls st) rfl hsz (Steps.refl _) (argsL := argsL) (rest := rest) (lenOf hds hlen) hst hW hd (fun _ _ => ⟨rfl, eT, hcl, hsl⟩)
  dsimp only [Pt.U, Pt.locs, Pt.cells, Pt.slots] at X' l1 y1 z1 stp hQ
  subst l1 y1 z1
  exact Gl.of (fun t q => stp.trans q) (k v T' Lc X' hQ)
theorem Gl.callV0 {G : State → Outcome → Prop} (X : Stand p l e R s m args below meth c T locs cells slots) (hx : p.tables.exec = Jvm.exec) (hZ : Z.Warmed39 s.vm) {own C : String} {index : Nat} {y z : MethodName} {bytes : ByteArray} {maxL : Nat} {rt : Option FieldType} (hown : s.vm.findClass own = some m.cls)
    (w1 : (Jvm.Cond.methodLink own index y).before a0 Z = true) (w2 : (Jvm.Cond.declares y).before a0 Z = true) (nf : NotFace s y) (w3 : (Jvm.Cond.selects C y z).before a0 Z = true) (w4 : (Jvm.Cond.instanceMethod z).before a0 Z = true) (w5 : (Jvm.Cond.code z bytes maxL rt).before a0 Z = true) (w6 : (Jvm.Cond.initialized z.cls).before a0 Z = true) (hy : y.cls ≠ "java/lang/invoke/MethodHandle" ∧ y.cls ≠ "java/lang/invoke/VarHandle")
    {fr lo : Nat} {F : Option Value → Prop} {b : Addr} {argsL rest : List Value} (hE : Exa Z h b C) (hM : Con l Z z bytes maxL rt [] ({ frames := fr, cells := 0, slots := 0, locals := lo } : Room) 0 0 (.ref b :: argsL).toArray h (Pur F h)) (W : Nat) (hf : fr + 1 ≤ R.frames) (hl : W + (maxL + 11) + lo ≤ R.locals) (eT : T.heap = h)
    {pc : Nat} {Ls : Array Slot} {st : List Value} (hsz : Ls.size = c.maxLocals) {ps : List FieldType} {r' : Option FieldType} (hds : parseMethodDescriptor y.desc = some ⟨ps, r'⟩) (hlen : argsL.length = ps.length) (hst : st = argsL.reverse ++ .ref b :: rest) (hW : 2 * 0 + (rest.map fun v => v.category).sum ≤ W) (hd : decode c.code pc = .ok (.invokevirtual index, 3)) (hcl : cells ≤ R.cells) (hsl : slots ≤ R.slots)
    (k : ∀ (v : Option Value) (T' : State), Stand p l e R s m args below meth c T' locs cells slots → T'.heap = h → F v → Gl p e below G (T'.setTop (mkF m (pc + 3) Ls (v.toList ++ rest)))) : Gl p e below G (T.setTop (mkF m pc Ls st)) := by
  refine Gl.callV X hx hZ hown w1 w2 nf w3 w4 w5 w6 hy hE hM W hf hl hcl hsl eT hsz hds hlen hst hW hd ?_
  intro v T' L X' hQ
  obtain ⟨q1, q2, rfl⟩ := hQ
  rw [List.append_nil] at X'
  exact k v T' X' q2 q1
/-- a private instance method by its contract -/
theorem Gl.callP {G : State → Outcome → Prop} (X : Stand p l e R s m args below meth c T locs cells slots) (hx : p.tables.exec = Jvm.exec) (hZ : Z.Warmed39 s.vm) {own C : String} {index : Nat} {y : MethodName} {bytes : ByteArray} {maxL : Nat} {rt : Option FieldType} (hown : s.vm.findClass own = some m.cls)
    (w1 : (Jvm.Cond.methodLink own index y).before a0 Z = true) (nf : NotFace s y) (w3 : (Jvm.Cond.privateMethod y).before a0 Z = true) (w4 : (Jvm.Cond.instanceMethod y).before a0 Z = true) (w5 : (Jvm.Cond.code y bytes maxL rt).before a0 Z = true) (w6 : (Jvm.Cond.initialized y.cls).before a0 Z = true) (hy : y.cls ≠ "java/lang/invoke/MethodHandle" ∧ y.cls ≠ "java/lang/invoke/VarHandle")
    {rm : Room} {Q : Option Value → Heap → List Loc → Prop} {b : Addr} {argsL rest : List Value} (hE : Exa Z h b C) (hM : Con l Z y bytes maxL rt [] rm rm.cells rm.slots (.ref b :: argsL).toArray h Q) (W : Nat) (hf : rm.frames + 1 ≤ R.frames) (hl : W + (maxL + 11) + rm.locals ≤ R.locals) (hcl : cells + rm.cells ≤ R.cells) (hsl : slots + rm.slots ≤ R.slots) (eT : T.heap = h)
    {pc : Nat} {Ls : Array Slot} {st : List Value} (hsz : Ls.size = c.maxLocals) {ps : List FieldType} {r' : Option FieldType} (hds : parseMethodDescriptor y.desc = some ⟨ps, r'⟩) (hlen : argsL.length = ps.length) (hst : st = argsL.reverse ++ .ref b :: rest) (hW : 2 * 0 + (rest.map fun v => v.category).sum ≤ W) (hd : decode c.code pc = .ok (.invokevirtual index, 3))
    (k : ∀ (v : Option Value) (T' : State) (L : List Loc), Stand p l e R s m args below meth c T' (locs ++ L) (cells + rm.cells) (slots + rm.slots) → Q v T'.heap L → Gl p e below G (T'.setTop (mkF m (pc + 3) Ls (v.toList ++ rest)))) : Gl p e below G (T.setTop (mkF m pc Ls st)) := by
  obtain ⟨cq, q, q'⟩ := hE.cell
  have hpv := Cond.privateMethod_at (mvP hZ w3 (args := #[]))
  have hin : (Jvm.Cond.instanceMethod y).before args s = true := mvT hZ w4
  obtain ⟨mk, methM, hnamed, hmethM, -, -⟩ := Cond.instanceMethod_spec hin
  obtain ⟨kc, hkc, hkni⟩ := nf mk hnamed
  have hsel : (Jvm.Cond.selects y.cls y y).before args s = true := selects_self_of_private (findClass_of_methodNamed hnamed) hkc hkni hpv hin hy
  obtain ⟨v, _, ⟨T', L', k', n'⟩, -, X', ⟨Lc, hQ, l1, y1, z1⟩, stp⟩ := X.privateBack hx (y := y) hown (mvT hZ w1) hin hsel hpv (mvT hZ w5) hy (backOf (W := W) hM hZ w5 w6 hf hl) (g := mkF m pc Ls st) rfl hsz (Steps.refl _) (a := b) (by rw [eT]; exact q) q' (argsL := argsL) (rest := rest) (lenOf hds hlen) hst hW hd (fun _ _ => ⟨rfl, eT, hcl, hsl⟩)
  dsimp only [Pt.U, Pt.locs, Pt.cells, Pt.slots] at X' l1 y1 z1 stp hQ
  subst l1 y1 z1
  exact Gl.of (fun t q => stp.trans q) (k v T' Lc X' hQ)
theorem Gl.callP0 {G : State → Outcome → Prop} (X : Stand p l e R s m args below meth c T locs cells slots) (hx : p.tables.exec = Jvm.exec) (hZ : Z.Warmed39 s.vm) {own C : String} {index : Nat} {y : MethodName} {bytes : ByteArray} {maxL : Nat} {rt : Option FieldType} (hown : s.vm.findClass own = some m.cls)
    (w1 : (Jvm.Cond.methodLink own index y).before a0 Z = true) (nf : NotFace s y) (w3 : (Jvm.Cond.privateMethod y).before a0 Z = true) (w4 : (Jvm.Cond.instanceMethod y).before a0 Z = true) (w5 : (Jvm.Cond.code y bytes maxL rt).before a0 Z = true) (w6 : (Jvm.Cond.initialized y.cls).before a0 Z = true) (hy : y.cls ≠ "java/lang/invoke/MethodHandle" ∧ y.cls ≠ "java/lang/invoke/VarHandle")
    {fr lo : Nat} {F : Option Value → Prop} {b : Addr} {argsL rest : List Value} (hE : Exa Z h b C) (hM : Con l Z y bytes maxL rt [] ({ frames := fr, cells := 0, slots := 0, locals := lo } : Room) 0 0 (.ref b :: argsL).toArray h (Pur F h)) (W : Nat) (hf : fr + 1 ≤ R.frames) (hl : W + (maxL + 11) + lo ≤ R.locals) (eT : T.heap = h)
    {pc : Nat} {Ls : Array Slot} {st : List Value} (hsz : Ls.size = c.maxLocals) {ps : List FieldType} {r' : Option FieldType} (hds : parseMethodDescriptor y.desc = some ⟨ps, r'⟩) (hlen : argsL.length = ps.length) (hst : st = argsL.reverse ++ .ref b :: rest) (hW : 2 * 0 + (rest.map fun v => v.category).sum ≤ W) (hd : decode c.code pc = .ok (.invokevirtual index, 3)) (hcl : cells ≤ R.cells) (hsl : slots ≤ R.slots)
    (k : ∀ (v : Option Value) (T' : State), Stand p l e R s m args below meth c T' locs cells slots → T'.heap = h → F v → Gl p e below G (T'.setTop (mkF m (pc + 3) Ls (v.toList ++ rest)))) : Gl p e below G (T.setTop (mkF m pc Ls st)) := by
  refine Gl.callP X hx hZ hown w1 nf w3 w4 w5 w6 hy hE hM W hf hl hcl hsl eT hsz hds hlen hst hW hd ?_
  intro v T' L X' hQ
  obtain ⟨q1, q2, rfl⟩ := hQ
  rw [List.append_nil] at X'
  exact k v T' X' q2 q1
/-- a constructor by its contract -/
theorem Gl.callI {G : State → Outcome → Prop} (X : Stand p l e R s m args below meth c T locs cells slots) (hx : p.tables.exec = Jvm.exec) (hZ : Z.Warmed39 s.vm) {own : String} {index : Nat} {y : MethodName} {bytes : ByteArray} {maxL : Nat} (hy1 : y.name = "<init>") (hown : s.vm.findClass own = some m.cls)
    (w1 : (Jvm.Cond.methodLink own index y).before a0 Z = true) (w2 : (Jvm.Cond.instanceMethod y).before a0 Z = true) (w3 : (Jvm.Cond.initialized y.cls).before a0 Z = true) (w4 : (Jvm.Cond.code y bytes maxL none).before a0 Z = true) (hy : y.cls ≠ "java/lang/invoke/MethodHandle" ∧ y.cls ≠ "java/lang/invoke/VarHandle")
    {rm : Room} {Q : Option Value → Heap → List Loc → Prop} {b : Addr} {argsL rest : List Value} (hM : Con l Z y bytes maxL none [] rm rm.cells rm.slots (.ref b :: argsL).toArray h Q) (W : Nat) (hf : rm.frames + 1 ≤ R.frames) (hl : W + (maxL + 11) + rm.locals ≤ R.locals) (hcl : cells + rm.cells ≤ R.cells) (hsl : slots + rm.slots ≤ R.slots) (eT : T.heap = h)
    {pc : Nat} {Ls : Array Slot} {st : List Value} (hsz : Ls.size = c.maxLocals) {ps : List FieldType} {r' : Option FieldType} (hds : parseMethodDescriptor y.desc = some ⟨ps, r'⟩) (hlen : argsL.length = ps.length) (hst : st = argsL.reverse ++ .ref b :: rest) (hW : 2 * 0 + (rest.map fun v => v.category).sum ≤ W) (hd : decode c.code pc = .ok (.invokespecial index, 3))
    (k : ∀ (v : Option Value) (T' : State) (L : List Loc), Stand p l e R s m args below meth c T' (locs ++ L) (cells + rm.cells) (slots + rm.slots) → Q v T'.heap L → Gl p e below G (T'.setTop (mkF m (pc + 3) Ls (v.toList ++ rest)))) : Gl p e below G (T.setTop (mkF m pc Ls st)) := by
  obtain ⟨v, _, ⟨T', L', k', n'⟩, -, X', ⟨Lc, hQ, l1, y1, z1⟩, stp⟩ := X.specialBack hx (y := y) hy1 hown (mvT hZ w1) (mvT hZ w2) (mvT hZ w4) hy (backOf (W := W) hM hZ w4 w3 hf hl) (g := mkF m pc Ls st) rfl hsz (Steps.refl _) (a := b) (argsL := argsL) (rest := rest) (lenOf hds hlen) hst hW hd (fun _ _ => ⟨rfl, eT, hcl, hsl⟩)
  dsimp only [Pt.U, Pt.locs, Pt.cells, Pt.slots] at X' l1 y1 z1 stp hQ
  subst l1 y1 z1
  exact Gl.of (fun t q => stp.trans q) (k v T' Lc X' hQ)
theorem Gl.callI0 {G : State → Outcome → Prop} (X : Stand p l e R s m args below meth c T locs cells slots) (hx : p.tables.exec = Jvm.exec) (hZ : Z.Warmed39 s.vm) {own : String} {index : Nat} {y : MethodName} {bytes : ByteArray} {maxL : Nat} (hy1 : y.name = "<init>") (hown : s.vm.findClass own = some m.cls)
    (w1 : (Jvm.Cond.methodLink own index y).before a0 Z = true) (w2 : (Jvm.Cond.instanceMethod y).before a0 Z = true) (w3 : (Jvm.Cond.initialized y.cls).before a0 Z = true) (w4 : (Jvm.Cond.code y bytes maxL none).before a0 Z = true) (hy : y.cls ≠ "java/lang/invoke/MethodHandle" ∧ y.cls ≠ "java/lang/invoke/VarHandle")
    {fr lo : Nat} {F : Option Value → Prop} {b : Addr} {argsL rest : List Value} (hM : Con l Z y bytes maxL none [] ({ frames := fr, cells := 0, slots := 0, locals := lo } : Room) 0 0 (.ref b :: argsL).toArray h (Pur F h)) (W : Nat) (hf : fr + 1 ≤ R.frames) (hl : W + (maxL + 11) + lo ≤ R.locals) (eT : T.heap = h)
    {pc : Nat} {Ls : Array Slot} {st : List Value} (hsz : Ls.size = c.maxLocals) {ps : List FieldType} {r' : Option FieldType} (hds : parseMethodDescriptor y.desc = some ⟨ps, r'⟩) (hlen : argsL.length = ps.length) (hst : st = argsL.reverse ++ .ref b :: rest) (hW : 2 * 0 + (rest.map fun v => v.category).sum ≤ W) (hd : decode c.code pc = .ok (.invokespecial index, 3)) (hcl : cells ≤ R.cells) (hsl : slots ≤ R.slots)
    (k : ∀ (v : Option Value) (T' : State), Stand p l e R s m args below meth c T' locs cells slots → T'.heap = h → F v → Gl p e below G (T'.setTop (mkF m (pc + 3) Ls (v.toList ++ rest)))) : Gl p e below G (T.setTop (mkF m pc Ls st)) := by
  refine Gl.callI X hx hZ hy1 hown w1 w2 w3 w4 hy hM W hf hl hcl hsl eT hsz hds hlen hst hW hd ?_
  intro v T' L X' hQ
  obtain ⟨q1, q2, rfl⟩ := hQ
  rw [List.append_nil] at X'
  exact k v T' X' q2 q1
/-- a constructor, by a Back -/
theorem Gl.callIB {G : State → Outcome → Prop} (X : Stand p l e R s m args below meth c T locs cells slots) (hx : p.tables.exec = Jvm.exec) (hZ : Z.Warmed39 s.vm) {own : String} {index : Nat} {y : MethodName} {bytes : ByteArray} {maxL : Nat} (hy1 : y.name = "<init>") (hown : s.vm.findClass own = some m.cls)
    (w1 : (Jvm.Cond.methodLink own index y).before a0 Z = true) (w2 : (Jvm.Cond.instanceMethod y).before a0 Z = true) (w4 : (Jvm.Cond.code y bytes maxL none).before a0 Z = true) (hy : y.cls ≠ "java/lang/invoke/MethodHandle" ∧ y.cls ≠ "java/lang/invoke/VarHandle")
    {C N W : Nat} (Q : Option Value → Heap → List Loc → Prop) {b : Addr} {argsL rest : List Value} (hK : Back l R p e below s args y 3 W (fun A a => a = (Value.ref b :: argsL).toArray ∧ A.U.heap = h ∧ A.cells + C ≤ R.cells ∧ A.slots + N ≤ R.slots) (fun A _ v B => ∃ L, Q v B.U.heap L ∧ B.locs = A.locs ++ L ∧ B.cells = A.cells + C ∧ B.slots = A.slots + N)) (hcl : cells + C ≤ R.cells) (hsl : slots + N ≤ R.slots) (eT : T.heap = h)
    {pc : Nat} {Ls : Array Slot} {st : List Value} (hsz : Ls.size = c.maxLocals) {ps : List FieldType} {r' : Option FieldType} (hds : parseMethodDescriptor y.desc = some ⟨ps, r'⟩) (hlen : argsL.length = ps.length) (hst : st = argsL.reverse ++ .ref b :: rest) (hW : 2 * 0 + (rest.map fun v => v.category).sum ≤ W) (hd : decode c.code pc = .ok (.invokespecial index, 3))
    (k : ∀ (v : Option Value) (T' : State) (L : List Loc), Stand p l e R s m args below meth c T' (locs ++ L) (cells + C) (slots + N) → Q v T'.heap L → Gl p e below G (T'.setTop (mkF m (pc + 3) Ls (v.toList ++ rest)))) : Gl p e below G (T.setTop (mkF m pc Ls st)) := by
  obtain ⟨v, _, ⟨T', L', k', n'⟩, -, X', ⟨Lc, hQ, l1, y1, z1⟩, stp⟩ := X.specialBack hx (y := y) hy1 hown (mvT hZ w1) (mvT hZ w2) (mvT hZ w4) hy hK (g := mkF m pc Ls st) rfl hsz (Steps.refl _) (a := b) (argsL := argsL) (rest := rest) (lenOf hds hlen) hst hW hd (fun _ _ => ⟨rfl, eT, hcl, hsl⟩)
  dsimp only [Pt.U, Pt.locs, Pt.cells, Pt.slots] at X' l1 y1 z1 stp hQ
  subst l1 y1 z1
  exact Gl.of (fun t q => stp.trans q) (k v T' Lc X' hQ)
/-- an instance method that writes and makes nothing, by a Back -/
theorem Gl.callVB {G : State → Outcome → Prop} (X : Stand p l e R s m args below meth c T locs cells slots) (hx : p.tables.exec = Jvm.exec) (hZ : Z.Warmed39 s.vm) {own C : String} {index : Nat} {y z : MethodName} (hown : s.vm.findClass own = some m.cls)
    (w1 : (Jvm.Cond.methodLink own index y).before a0 Z = true) (w2 : (Jvm.Cond.declares y).before a0 Z = true) (nf : NotFace s y) (w3 : (Jvm.Cond.selects C y z).before a0 Z = true) (w4 : (Jvm.Cond.instanceMethod z).before a0 Z = true) (hy : y.cls ≠ "java/lang/invoke/MethodHandle" ∧ y.cls ≠ "java/lang/invoke/VarHandle")
    {W : Nat} (F : Option Value → Prop) {b : Addr} {argsL rest : List Value} (hE : Exa Z h b C) (hK : Back l R p e below s args z 3 W (fun A a => a = (Value.ref b :: argsL).toArray ∧ A.U.heap = h ∧ A.cells + 0 ≤ R.cells ∧ A.slots + 0 ≤ R.slots) (fun A _ v B => ∃ L, (F v ∧ L = [] ∧ B.U.heap = h) ∧ B.locs = A.locs ++ L ∧ B.cells = A.cells + 0 ∧ B.slots = A.slots + 0)) (hcl : cells ≤ R.cells) (hsl : slots ≤ R.slots) (eT : T.heap = h)
    {pc : Nat} {Ls : Array Slot} {st : List Value} (hsz : Ls.size = c.maxLocals) {ps : List FieldType} {r' : Option FieldType} (hds : parseMethodDescriptor y.desc = some ⟨ps, r'⟩) (hlen : argsL.length = ps.length) (hst : st = argsL.reverse ++ .ref b :: rest) (hW : 2 * 0 + (rest.map fun v => v.category).sum ≤ W) (hd : decode c.code pc = .ok (.invokevirtual index, 3))
    (k : ∀ (v : Option Value) (T' : State), Stand p l e R s m args below meth c T' locs cells slots → T'.heap = h → F v → Gl p e below G (T'.setTop (mkF m (pc + 3) Ls (v.toList ++ rest)))) : Gl p e below G (T.setTop (mkF m pc Ls st)) := by
  obtain ⟨cq, kq, qa, qb, qc⟩ := isOf hZ eT hE
  obtain ⟨v, _, ⟨T', L', k', n'⟩, -, X', ⟨Lc, ⟨hF, hL, hH⟩, l1, y1, z1⟩, stp⟩ := X.virtualBack hx (y := y) (z := z) hown (mvT hZ w1) (mvT hZ w2) nf (mvT hZ w3) (mvT hZ w4) hy hK qa qc (g := mkF m pc Ls st) rfl hsz (Steps.refl _) (argsL := argsL) (rest := rest) (lenOf hds hlen) hst hW hd (fun _ _ => ⟨rfl, eT, hcl, hsl⟩)
  dsimp only [Pt.U, Pt.locs, Pt.cells, Pt.slots] at X' l1 y1 z1 stp hH
  subst l1 y1 z1 hL
  rw [List.append_nil] at X'
  exact Gl.of (fun t q => stp.trans q) (k v T' X' hH hF)
/-- a static call of a callee that may intern -/
theorem Gl.callSW {G : State → Outcome → Prop} {vm0 : Vm} {k0 : Nat} (X : Stand p l e R (s.setVm vm0) m args below meth c T locs cells slots) (hx : p.tables.exec = Jvm.exec) (hZ : Z.Warmed39 (s.setVm vm0).vm) (hS : s.Since vm0 k0) (hk : k0 ≤ h.size) {own : String} {index : Nat} {y : MethodName} {bytes : ByteArray} {maxL : Nat} {rt : Option FieldType} (hown : (s.setVm vm0).vm.findClass own = some m.cls)
    (w1 : (Jvm.Cond.methodLink own index y).before a0 Z = true) (w2 : (Jvm.Cond.static y).before a0 Z = true) (w3 : (Jvm.Cond.initialized y.cls).before a0 Z = true) (w4 : (Jvm.Cond.code y bytes maxL rt).before a0 Z = true) (hy : y.cls ≠ "java/lang/invoke/MethodHandle" ∧ y.cls ≠ "java/lang/invoke/VarHandle")
    {rm : Room} {Q : Option Value → Heap → List Loc → Prop} {argsL rest : List Value} (hM : ConW l Z y bytes maxL rt [] rm rm.cells rm.slots argsL.toArray h Q) (W : Nat) (hf : rm.frames + 1 ≤ R.frames) (hl : W + (maxL + 11) + rm.locals ≤ R.locals) (hcl : cells + rm.cells ≤ R.cells) (hsl : slots + rm.slots ≤ R.slots) (eT : T.heap = h)
    {pc : Nat} {Ls : Array Slot} {st : List Value} (hsz : Ls.size = c.maxLocals) {ps : List FieldType} {r' : Option FieldType} (hds : parseMethodDescriptor y.desc = some ⟨ps, r'⟩) (hlen : argsL.length = ps.length) (hst : st = argsL.reverse ++ rest) (hW : 2 * 0 + (rest.map fun v => v.category).sum ≤ W) (hd : decode c.code pc = .ok (.invokestatic index, 3))
    (k : ∀ (v : Option Value) (T' : State) (L : List Loc), Stand p l e R (s.setVm T'.vm) m args below meth c T' (locs ++ L) (cells + rm.cells) (slots + rm.slots) → s.Since T'.vm T'.heap.size → Z.Warmed39 (s.setVm T'.vm).vm → (s.setVm T'.vm).vm.findClass own = some m.cls → Q v T'.heap L → Gl p e below G (T'.setTop (mkF m (pc + 3) Ls (v.toList ++ rest)))) : Gl p e below G (T.setTop (mkF m pc Ls st)) := by
  obtain ⟨v, _, ⟨T', L', k', n'⟩, -, X', hS', hg', ⟨Lc, hQ, l1, y1, z1⟩, stp⟩ := callSS X hx (y := y) hown (mvT hZ w1) (mvT hZ w2) (mvT hZ w3) (mvT hZ w4) hy (backOfS (W := W) hM hZ w4 w3 hf hl) (g := mkF m pc Ls st) rfl hsz (argsL := argsL) (rest := rest) (lenOf hds hlen) hst hW hd (fun _ _ => ⟨rfl, eT, hcl, hsl⟩)
  dsimp only [Pt.U, Pt.locs, Pt.cells, Pt.slots] at X' l1 y1 z1 stp hQ hS' hg'
  subst l1 y1 z1
  rw [eT] at hg'
  obtain ⟨q1, q2, q3, q4⟩ := rebS hS hk X' hS' hg' hZ hown
  exact Gl.of (fun t q => stp.trans q) (k v T' Lc q1 q2 q3 q4 hQ)
/-- a constructor that may intern -/
theorem Gl.callIW {G : State → Outcome → Prop} {vm0 : Vm} {k0 : Nat} (X : Stand p l e R (s.setVm vm0) m args below meth c T locs cells slots) (hx : p.tables.exec = Jvm.exec) (hZ : Z.Warmed39 (s.setVm vm0).vm) (hS : s.Since vm0 k0) (hk : k0 ≤ h.size) {own : String} {index : Nat} {y : MethodName} {bytes : ByteArray} {maxL : Nat} (hy1 : y.name = "<init>") (hown : (s.setVm vm0).vm.findClass own = some m.cls)
    (w1 : (Jvm.Cond.methodLink own index y).before a0 Z = true) (w2 : (Jvm.Cond.instanceMethod y).before a0 Z = true) (w3 : (Jvm.Cond.initialized y.cls).before a0 Z = true) (w4 : (Jvm.Cond.code y bytes maxL none).before a0 Z = true) (hy : y.cls ≠ "java/lang/invoke/MethodHandle" ∧ y.cls ≠ "java/lang/invoke/VarHandle")
    {rm : Room} {Q : Option Value → Heap → List Loc → Prop} {b : Addr} {argsL rest : List Value} (hM : ConW l Z y bytes maxL none [] rm rm.cells rm.slots (Value.ref b :: argsL).toArray h Q) (W : Nat) (hf : rm.frames + 1 ≤ R.frames) (hl : W + (maxL + 11) + rm.locals ≤ R.locals) (hcl : cells + rm.cells ≤ R.cells) (hsl : slots + rm.slots ≤ R.slots) (eT : T.heap = h)
    {pc : Nat} {Ls : Array Slot} {st : List Value} (hsz : Ls.size = c.maxLocals) {ps : List FieldType} {r' : Option FieldType} (hds : parseMethodDescriptor y.desc = some ⟨ps, r'⟩) (hlen : argsL.length = ps.length) (hst : st = argsL.reverse ++ .ref b :: rest) (hW : 2 * 0 + (rest.map fun v => v.category).sum ≤ W) (hd : decode c.code pc = .ok (.invokespecial index, 3))
    (k : ∀ (v : Option Value) (T' : State) (L : List Loc), Stand p l e R (s.setVm T'.vm) m args below meth c T' (locs ++ L) (cells + rm.cells) (slots + rm.slots) → s.Since T'.vm T'.heap.size → Z.Warmed39 (s.setVm T'.vm).vm → (s.setVm T'.vm).vm.findClass own = some m.cls → Q v T'.heap L → Gl p e below G (T'.setTop (mkF m (pc + 3) Ls (v.toList ++ rest)))) : Gl p e below G (T.setTop (mkF m pc Ls st)) := by
  obtain ⟨v, _, ⟨T', L', k', n'⟩, -, X', hS', hg', ⟨Lc, hQ, l1, y1, z1⟩, stp⟩ := X.specialBackS hx (y := y) hy1 hown (mvT hZ w1) (mvT hZ w2) (mvT hZ w4) hy (backOfS (W := W) hM hZ w4 w3 hf hl) (g := mkF m pc Ls st) rfl hsz (Steps.refl _) (a := b) (argsL := argsL) (rest := rest) (lenOf hds hlen) hst hW hd (fun _ _ => ⟨rfl, eT, hcl, hsl⟩)
  dsimp only [Pt.U, Pt.locs, Pt.cells, Pt.slots] at X' l1 y1 z1 stp hQ hS' hg'
  subst l1 y1 z1
  rw [eT] at hg'
  obtain ⟨q1, q2, q3, q4⟩ := rebS hS hk X' hS' hg' hZ hown
  exact Gl.of (fun t q => stp.trans q) (k v T' Lc q1 q2 q3 q4 hQ)
/-- an instance method that may intern -/
theorem Gl.callVW {G : State → Outcome → Prop} {vm0 : Vm} {k0 : Nat} (X : Stand p l e R (s.setVm vm0) m args below meth c T locs cells slots) (hx : p.tables.exec = Jvm.exec) (hZ : Z.Warmed39 (s.setVm vm0).vm) (hS : s.Since vm0 k0) (hk : k0 ≤ h.size) {own C : String} {index : Nat} {y z : MethodName} {bytes : ByteArray} {maxL : Nat} {rt : Option FieldType} (hown : (s.setVm vm0).vm.findClass own = some m.cls)
    (w1 : (Jvm.Cond.methodLink own index y).before a0 Z = true) (w2 : (Jvm.Cond.declares y).before a0 Z = true) (nf : NotFace (s.setVm vm0) y) (w5 : (Jvm.Cond.selects C y z).before a0 Z = true) (w6 : (Jvm.Cond.instanceMethod z).before a0 Z = true) (w4 : (Jvm.Cond.code z bytes maxL rt).before a0 Z = true) (w3 : (Jvm.Cond.initialized z.cls).before a0 Z = true) (hy : y.cls ≠ "java/lang/invoke/MethodHandle" ∧ y.cls ≠ "java/lang/invoke/VarHandle")
    {rm : Room} {Q : Option Value → Heap → List Loc → Prop} {b : Addr} {argsL rest : List Value} (hE : Exa Z h b C) (hM : ConW l Z z bytes maxL rt [] rm rm.cells rm.slots (Value.ref b :: argsL).toArray h Q) (W : Nat) (hf : rm.frames + 1 ≤ R.frames) (hl : W + (maxL + 11) + rm.locals ≤ R.locals) (hcl : cells + rm.cells ≤ R.cells) (hsl : slots + rm.slots ≤ R.slots) (eT : T.heap = h)
    {pc : Nat} {Ls : Array Slot} {st : List Value} (hsz : Ls.size = c.maxLocals) {ps : List FieldType} {r' : Option FieldType} (hds : parseMethodDescriptor y.desc = some ⟨ps, r'⟩) (hlen : argsL.length = ps.length) (hst : st = argsL.reverse ++ .ref b :: rest) (hW : 2 * 0 + (rest.map fun v => v.category).sum ≤ W) (hd : decode c.code pc = .ok (.invokevirtual index, 3))
    (k : ∀ (v : Option Value) (T' : State) (L : List Loc), Stand p l e R (s.setVm T'.vm) m args below meth c T' (locs ++ L) (cells + rm.cells) (slots + rm.slots) → s.Since T'.vm T'.heap.size → Z.Warmed39 (s.setVm T'.vm).vm → (s.setVm T'.vm).vm.findClass own = some m.cls → Q v T'.heap L → Gl p e below G (T'.setTop (mkF m (pc + 3) Ls (v.toList ++ rest)))) : Gl p e below G (T.setTop (mkF m pc Ls st)) := by
  obtain ⟨cq, kq, qa, qb, qc⟩ := isOf hZ eT hE
  obtain ⟨v, _, ⟨T', L', k', n'⟩, -, X', hS', hg', ⟨Lc, hQ, l1, y1, z1⟩, stp⟩ := X.virtualBackS hx (y := y) (z := z) hown (mvT hZ w1) (mvT hZ w2) nf (mvT hZ w5) (mvT hZ w6) hy (backOfS (W := W) hM hZ w4 w3 hf hl) qa qc (g := mkF m pc Ls st) rfl hsz (Steps.refl _) (argsL := argsL) (rest := rest) (lenOf hds hlen) hst hW hd (fun _ _ => ⟨rfl, eT, hcl, hsl⟩)
  dsimp only [Pt.U, Pt.locs, Pt.cells, Pt.slots] at X' l1 y1 z1 stp hQ hS' hg'
  subst l1 y1 z1
  rw [eT] at hg'
  obtain ⟨q1, q2, q3, q4⟩ := rebS hS hk X' hS' hg' hZ hown
  exact Gl.of (fun t q => stp.trans q) (k v T' Lc q1 q2 q3 q4 hQ)
theorem nf_same {y y' : MethodName} {C : String} (hc : y'.cls = y.cls) (w : (Jvm.Cond.selects C y y).before args s = true) : NotFace s y' := fun r0 h0 => by
  obtain ⟨c2, r2, m2, q1, q2, q3, q4, kP, hkP, hkPi⟩ := Cond.selects_spec w
  have a := findClass_of_methodNamed h0
  rw [hc] at a
  have b := Option.some.inj (a.symm.trans (findClass_of_methodNamed q3))
  exact ⟨kP, by rw [b]; exact hkP, hkPi⟩
theorem fld_ne {a b : Addr} {C n d : String} {v w : Value} (F : Fld Z h a C n d v) (G : Fld Z h b C n d w) (hn : v ≠ w) : ¬ a = b := fun e => by
  subst e
  obtain ⟨c1, cf, k, i, f, h1, h2, -, -, -, -, h7⟩ := F
  obtain ⟨c2, cf', k', i', f', g1, g2, -, -, -, -, g7⟩ := G
  cases h1.symm.trans g1
  cases h2.symm.trans g2
  exact hn (Option.some.inj (h7.symm.trans g7))
theorem own_nb1 : nar .boolean 1 = 1 := rfl
theorem own_nb0 : nar .boolean 0 = 0 := rfl
/-- the words of a case: an equation with an int -/
theorem eq_at {args : Array Value} {s : State} {t : Term} {idx : List Nat} {z : Int32} (h : (Jvm.Cond.eq t (.int z)).value args s none s idx = some true) : t.eval args s none idx s = some (.int z) := by
  obtain ⟨x, y', e1, e2, k1, k2⟩ := cmp_v (Or.inl h)
  cases (Term.int_eval z).symm.trans e2
  obtain ⟨z', rfl⟩ : ∃ z', x = .int z' := k2
  exact e1.trans (congrArg (fun z => some (Value.int z)) (gotT (Cond.eq_ints e1 (Term.int_eval z)) h))
theorem eqR_at {args : Array Value} {s : State} {t u : Term} {idx : List Nat} {a : Addr} (h : (Jvm.Cond.eq t u).value args s none s idx = some true) (hu : u.eval args s none idx s = some (.ref a)) : t.eval args s none idx s = some (.ref a) := by
  obtain ⟨x, y', e1, e2, k1, k2⟩ := cmp_v (Or.inl h)
  cases hu.symm.trans e2
  have hx : x.isRef = true := k2.2
  have q := gotT (eq_R e1 hu hx rfl) h
  rw [q] at e1
  exact e1
theorem len_at {args : Array Value} {s : State} {t : Term} {z : Int32} {a : Addr} {cl : Cell} (h : (Term.length t).eval args s none [] s = some (.int z)) (ht : t.eval args s none [] s = some (.ref a)) (ha : s.arrayAt? a = some cl) : cl.slots.size.toInt32 = z ∧ cl.slots.size < 2 ^ 31 := by
  by_cases q : cl.slots.size < 2 ^ 31
  · rw [len_f ht ha q] at h
    cases h
    exact ⟨rfl, q⟩
  · simp [Term.eval, ht, ha, q] at h
theorem len_sz {n : Nat} {z : Int32} (h : n.toInt32 = z) (q : n < 2 ^ 31) : n = z.toNatClampNeg := by
  rw [← h]; simp only [Int32.toNatClampNeg, len_toInt q]; rfl
end Own
theorem own_weq {Z : State} {a0 : Array Value} (hw : ∀ d ∈ tables_1, d.before a0 Z = true) : ∀ d ∈ StrChars.Road.wordsEq, d.before a0 Z = true := fun d hd => hw d ((by decide +kernel : ∀ d ∈ StrChars.Road.wordsEq, d ∈ tables_1) d hd)
theorem own_c255 (x : Int32) : ¬ nar .char ((x &&& (255 : Int32)).toUInt32.toUInt16.toUInt32.toInt32) < 0 ∧ ¬ (255 : Int32) < nar .char ((x &&& (255 : Int32)).toUInt32.toUInt16.toUInt32.toInt32) := by
  have e : nar .char ((x &&& (255 : Int32)).toUInt32.toUInt16.toUInt32.toInt32) = x &&& 255 := by
    show ((x &&& (255 : Int32)).toUInt32.toUInt16.toUInt32.toInt32).toUInt32.toUInt16.toUInt32.toInt32 = x &&& 255
    rw [i2c_mask, i2c_mask]
  rw [e]
  have h : (x &&& (255 : Int32)).toInt = x.toInt % 2 ^ 8 := Jvm.Kit.i32_mask x 255 (k := 8) (by decide) (by decide)
  have e0 : (0 : Int32).toInt = 0 := rfl
  have e1 : (255 : Int32).toInt = 255 := rfl
  simp only [Int32.lt_iff_toInt_lt, h]
  omega
theorem own_up (cs : List Int32) (h : ∀ c ∈ cs, ¬ c < 0 ∧ ¬ (255 : Int32) < c) : ∀ c ∈ cs, ¬ c < 0 ∧ ¬ (65535 : Int32) < c := fun c hc => ⟨(h c hc).1, fun q => (h c hc).2 (by rw [Int32.lt_iff_toInt_lt] at q ⊢; have e1 : (65535 : Int32).toInt = 65535 := rfl; have e2 : (255 : Int32).toInt = 255 := rfl; omega)⟩
theorem own_cons {P : Int32 → Prop} {x : Int32} {xs : List Int32} (h : P x) (hs : ∀ c ∈ xs, P c) : ∀ c ∈ x :: xs, P c := fun c hc => by
  rcases List.mem_cons.mp hc with rfl | hc
  · exact h
  · exact hs c hc
theorem own_nil {P : Int32 → Prop} : ∀ c ∈ ([] : List Int32), P c := fun c hc => nomatch hc
theorem StrChars.Road.codOf {cs : List Int32} {n : Nat} (hn : cs.length = n) (hb : ∀ c ∈ cs, ¬ 255 < c) : StrChars.Road.CodA cs 0 (Int32.ofNat n) ((cs.map (fun c => c.toInt8.toInt32)).map Value.int) := Or.inl ⟨rfl, by rw [hn], by rw [List.map_map]; rfl, hb⟩
def Strg (Z : State) (h : Heap) (x t : Addr) (kb : ClassId) (cs : List Int32) : Prop := Exa Z h x "java/lang/String" ∧ Fld Z h x "java/lang/String" "value" "[B" (.ref t) ∧ Fld Z h x "java/lang/String" "coder" "B" (.int 0) ∧ Arv Z h t kb .byte (Int32.ofNat cs.length) ((cs.map (fun c => c.toInt8.toInt32)).map Value.int) (.int 0) ∧ (∀ c ∈ cs, ¬ c < 0 ∧ ¬ (255 : Int32) < c) ∧ cs.length ≤ 4000
theorem Strg.ext {Z : State} {h h' : Heap} {x t : Addr} {kb : ClassId} {cs : List Int32} (G : Strg Z h x t kb cs) (E : Ext h h') : Strg Z h' x t kb cs := ⟨G.1.ext E, G.2.1.ext E, G.2.2.1.ext E, G.2.2.2.1.ext E, G.2.2.2.2⟩
theorem Strg.keep {Z : State} {h h' : Heap} {x t : Addr} {kb : ClassId} {cs : List Int32} {ws : List Addr} (G : Strg Z h x t kb cs) (K : Keep h h' ws) (q : x ∉ ws) (q' : t ∉ ws) : Strg Z h' x t kb cs := ⟨G.1.keep K, G.2.1.keep K q, G.2.2.1.keep K q, G.2.2.2.1.keep K q', G.2.2.2.2⟩
theorem Strg.wr {Z : State} {h h' : Heap} {x t a : Addr} {sl : Nat} {v : Value} {kb : ClassId} {cs : List Int32} (G : Strg Z h x t kb cs) (W : Wr h h' a sl v) (q : x ≠ a) (q' : t ≠ a) : Strg Z h' x t kb cs := ⟨G.1.wr W, G.2.1.other W (Or.inl q), G.2.2.1.other W (Or.inl q), G.2.2.2.1.other W q', G.2.2.2.2⟩
theorem Strg.lt {Z : State} {h : Heap} {x t : Addr} {kb : ClassId} {cs : List Int32} (G : Strg Z h x t kb cs) : x < h.size := G.1.lt
theorem Strg.lt' {Z : State} {h : Heap} {x t : Addr} {kb : ClassId} {cs : List Int32} (G : Strg Z h x t kb cs) : t < h.size := G.2.2.2.1.lt
theorem Strg.cod {Z : State} {h : Heap} {x t : Addr} {kb : ClassId} {cs : List Int32} (G : Strg Z h x t kb cs) : StrChars.Road.CodA cs 0 (Int32.ofNat cs.length) ((cs.map (fun c => c.toInt8.toInt32)).map Value.int) := StrChars.Road.codOf rfl (fun c hc => (G.2.2.2.2.1 c hc).2)
theorem Strg.up {Z : State} {h : Heap} {x t : Addr} {kb : ClassId} {cs : List Int32} (G : Strg Z h x t kb cs) : ∀ c ∈ cs, ¬ c < 0 ∧ ¬ (65535 : Int32) < c := own_up _ G.2.2.2.2.1
theorem own_str {Z : State} {a0 : Array Value} (hw : ∀ d ∈ tables_1, d.before a0 Z = true) : ∀ a ∈ Bundle.stringAtoms, a.before a0 Z = true := fun d hd => hw d ((by decide +kernel : ∀ d ∈ Bundle.stringAtoms, d ∈ tables_1) d hd)
section OwnH
variable {p : Program} {l : Launch} {e : Env} {R : Room} {s : State} {m : MethodId} {args : Array Value} {below : List Frame} {meth : Method} {c : Code} {T : State} {locs : List Loc} {cells slots : Nat} {Z : State} {a0 : Array Value} {h : Heap}
variable {EL : List (String × Nat)}
def GdH (Z : State) (EL : List (String × Nat)) (s : State) (Q : Option Value → Heap → List Loc → Prop) (C N : Nat) (t : State) (o : Outcome) : Prop := ∃ v L, o = .returned v ∧ Q v t.heap L ∧ CHr Z EL s.vm s.heap t.vm t.heap ∧ ReturnedEndW s o t L C N
def ConH (l : Launch) (Z : State) (EL : List (String × Nat)) (y : MethodName) (bytes : ByteArray) (maxL : Nat) (rt : Option FieldType) (ws : List Jvm.Cond) (rm : Room) (C N : Nat) (as : Array Value) (h : Heap) (Q : Option Value → Heap → List Loc → Prop) : Prop :=
  MetFree l y (head1 (Jvm.Cond.code y bytes maxL rt :: ws) rm) (fun a U => a = as ∧ Z.Warmed39 U.vm ∧ U.heap = h ∧ CHv Z EL U.vm h) (fun _ _ _ _ _ => True) (fun _ U o U' => ∃ v L, o = .returned v ∧ Q v U'.heap L ∧ CHr Z EL U.vm U.heap U'.vm U'.heap ∧ ReturnedEndW U o U' L C N)
theorem ConH.intro {y : MethodName} {bytes : ByteArray} {maxL : Nat} {rt : Option FieldType} {ws : List Jvm.Cond} {rm : Room} {C N : Nat} {as : Array Value} {Q : Option Value → Heap → List Loc → Prop} (hp : plainFor y = true)
    (body : ∀ p e s m below meth c s₁, Stand p l e rm s m as below meth c s₁ [] 0 0 → p.tables.exec = Jvm.exec → c.code = bytes → c.maxLocals = maxL → Z.Warmed39 s.vm → s.vm.findClass y.cls = some m.cls → meth.name = y.name → meth.sig.returnType = rt → meth.locks = false → s₁.heap = h → s.heap = h → CHr Z EL s.vm s.heap s.vm h →
      Gl p e below (GdH Z EL s Q C N) (s₁.setTop (entryFrame m as maxL))) : ConH l Z EL y bytes maxL rt ws rm C N as h Q := by
  refine MetFree.of_bodySF hp hisR ?_
  intro p e s m args below meth c s₁ Bd hml0 hP hK
  obtain ⟨rfl, hZ, hh, hC⟩ := hP
  exact body p e s m below meth c s₁ (Stand.of_body Bd) Bd.exec Bd.bytes hml0 hZ (findClass_of_methodNamed Bd.named) (name_of_methodNamed Bd.named Bd.method).1 Bd.returns (BodyLoose.notSynchronized Bd) (by rw [← hh, Bd.state]; rfl) hh (by rw [hh]; exact CHr.refl hC)
theorem Gl.leafH {Q : Option Value → Heap → List Loc → Prop} {C N n : Nat} {vm₁ : Vm} (X : Stand p l e R (s.setVm vm₁) m args below meth c T locs cells slots) (hlk : meth.locks = false) {v : Option Value} (hv : meth.sig.returnType = none → v = none) {S : State}
    (st : ∀ fs, (∀ (f : JFrame) (acts : List Action), f.method = m → f.locked = none → f.entered = [] → (doReturn e (T.setTop f) acts v).1 = T.setFrames fs) → Steps p.tables e below S (T.setFrames fs)) (eT : T.heap = h) (hQ : Q v h locs) (hS : s.Since vm₁ n) (hn : n ≤ h.size) (hZ : Z.Warmed39 vm₁) (hEL : EW Z a0 EL) (hR : CHr Z EL s.vm s.heap vm₁ h) (hC : cells ≤ C) (hN : slots ≤ N) : Gl p e below (GdH Z EL s Q C N) S := by
  obtain ⟨fs, hr, hrun, hended, hW⟩ := X.leaveW hS (by rw [eT]; exact hn) (v := v) hv hlk
  exact ⟨_, _, st fs hr, hrun, hended, v, locs, rfl, by show Q v T.heap locs; rw [eT]; exact hQ, by show CHr Z EL s.vm s.heap T.vm T.heap; rw [eT]; exact hR.trans (CHv.at X hZ hEL hR.1), hW.1, hW.2.1, hW.2.2.1, hW.2.2.2.mono hC hN⟩
theorem Gl.retNH {Q : Option Value → Heap → List Loc → Prop} {C N n : Nat} {vm₁ : Vm} (X : Stand p l e R (s.setVm vm₁) m args below meth c T locs cells slots) (hx : p.tables.exec = Jvm.exec) (hlk : meth.locks = false) {t : FieldType} (hret : meth.sig.returnType = some t) (ht : t = .boolean ∨ t = .byte ∨ t = .char ∨ t = .short) {pc : Nat} {Ls : Array Slot} {z : Int32} {rest : List Value} (hd : decode c.code pc = .ok (.ireturn, 1))
    (eT : T.heap = h) (hQ : Q (some (.int (nar t z))) h locs) (hS : s.Since vm₁ n) (hn : n ≤ h.size) (hZ : Z.Warmed39 vm₁) (hEL : EW Z a0 EL) (hR : CHr Z EL s.vm s.heap vm₁ h) (hC : cells ≤ C) (hN : slots ≤ N) : Gl p e below (GdH Z EL s Q C N) (T.setTop (mkF m pc Ls (.int z :: rest))) :=
  Gl.leafH X hlk (fun q => by rw [hret] at q; cases q) (fun fs hr => Jvm.RoadKit.retN X hx hret ht hd hr) eT hQ hS hn hZ hEL hR hC hN
theorem Gl.retRH {Q : Option Value → Heap → List Loc → Prop} {C N n : Nat} {vm₁ : Vm} (X : Stand p l e R (s.setVm vm₁) m args below meth c T locs cells slots) (hx : p.tables.exec = Jvm.exec) (hlk : meth.locks = false) {t : FieldType} (hret : meth.sig.returnType = some t) (ht : t.isReference = true) {pc : Nat} {Ls : Array Slot} {w : Value} (hw : w.isRef = true) {rest : List Value} (hd : decode c.code pc = .ok (.areturn, 1))
    (eT : T.heap = h) (hQ : Q (some w) h locs) (hS : s.Since vm₁ n) (hn : n ≤ h.size) (hZ : Z.Warmed39 vm₁) (hEL : EW Z a0 EL) (hR : CHr Z EL s.vm s.heap vm₁ h) (hC : cells ≤ C) (hN : slots ≤ N) : Gl p e below (GdH Z EL s Q C N) (T.setTop (mkF m pc Ls (w :: rest))) :=
  Gl.leafH X hlk (fun q => by rw [hret] at q; cases q) (fun fs hr => retOut X hx hret (by cases t <;> first | (cases ht; done) | (rcases ref_cases hw with rfl | ⟨_, rfl⟩ <;> rfl)) (Or.inr (Or.inr (Or.inr (Or.inr ⟨rfl, ht, hw⟩)))) hd hr) eT hQ hS hn hZ hEL hR hC hN
theorem Gl.ret0H {Q : Option Value → Heap → List Loc → Prop} {C N n : Nat} {vm₁ : Vm} (X : Stand p l e R (s.setVm vm₁) m args below meth c T locs cells slots) (hx : p.tables.exec = Jvm.exec) (hlk : meth.locks = false) (hret : meth.sig.returnType = none) {pc : Nat} {Ls : Array Slot} (hd : decode c.code pc = .ok (.return_, 1))
    (eT : T.heap = h) (hQ : Q none h locs) (hS : s.Since vm₁ n) (hn : n ≤ h.size) (hZ : Z.Warmed39 vm₁) (hEL : EW Z a0 EL) (hR : CHr Z EL s.vm s.heap vm₁ h) (hC : cells ≤ C) (hN : slots ≤ N) : Gl p e below (GdH Z EL s Q C N) (T.setTop (mkF m pc Ls [])) :=
  Gl.leafH X hlk (fun _ => rfl) (fun fs hr => X.returnOut hx hret hd hr) eT hQ hS hn hZ hEL hR hC hN
theorem Gl.callSH {G : State → Outcome → Prop} {vm0 : Vm} {k0 : Nat} (X : Stand p l e R (s.setVm vm0) m args below meth c T locs cells slots) (hx : p.tables.exec = Jvm.exec) (hZ : Z.Warmed39 (s.setVm vm0).vm) (hS : s.Since vm0 k0) (hk : k0 ≤ h.size) {vmS : Vm} {hh0 : Heap} (hEL : EW Z a0 EL) (hR : CHr Z EL vmS hh0 vm0 h) {own : String} {index : Nat} {y : MethodName} {bytes : ByteArray} {maxL : Nat} {rt : Option FieldType} (hown : (s.setVm vm0).vm.findClass own = some m.cls)
    (w1 : (Jvm.Cond.methodLink own index y).before a0 Z = true) (w2 : (Jvm.Cond.static y).before a0 Z = true) (w3 : (Jvm.Cond.initialized y.cls).before a0 Z = true) (w4 : (Jvm.Cond.code y bytes maxL rt).before a0 Z = true) (hy : y.cls ≠ "java/lang/invoke/MethodHandle" ∧ y.cls ≠ "java/lang/invoke/VarHandle")
    {rm : Room} {Q : Option Value → Heap → List Loc → Prop} {argsL rest : List Value} (hM : ConH l Z EL y bytes maxL rt [] rm rm.cells rm.slots argsL.toArray h Q) (W : Nat) (hf : rm.frames + 1 ≤ R.frames) (hl : W + (maxL + 11) + rm.locals ≤ R.locals) (hcl : cells + rm.cells ≤ R.cells) (hsl : slots + rm.slots ≤ R.slots) (eT : T.heap = h)
    {pc : Nat} {Ls : Array Slot} {st : List Value} (hsz : Ls.size = c.maxLocals) {ps : List FieldType} {r' : Option FieldType} (hds : parseMethodDescriptor y.desc = some ⟨ps, r'⟩) (hlen : argsL.length = ps.length) (hst : st = argsL.reverse ++ rest) (hW : 2 * 0 + (rest.map fun v => v.category).sum ≤ W) (hd : decode c.code pc = .ok (.invokestatic index, 3))
    (k : ∀ (v : Option Value) (T' : State) (L : List Loc), Stand p l e R (s.setVm T'.vm) m args below meth c T' (locs ++ L) (cells + rm.cells) (slots + rm.slots) → s.Since T'.vm T'.heap.size → Z.Warmed39 (s.setVm T'.vm).vm → (s.setVm T'.vm).vm.findClass own = some m.cls → Q v T'.heap L → CHr Z EL vmS hh0 T'.vm T'.heap → Gl p e below G (T'.setTop (mkF m (pc + 3) Ls (v.toList ++ rest)))) : Gl p e below G (T.setTop (mkF m pc Ls st)) := by
  obtain ⟨v, _, ⟨T', L', k', n'⟩, -, X', hS', hg', ⟨Lc, hQ, l1, y1, z1, r1⟩, stp⟩ := callSS X hx (y := y) hown (mvT hZ w1) (mvT hZ w2) (mvT hZ w3) (mvT hZ w4) hy (backOfSH (W := W) hM hZ w4 w3 hf hl hEL hR.1) (g := mkF m pc Ls st) rfl hsz (argsL := argsL) (rest := rest) (lenOf hds hlen) hst hW hd (fun _ _ => ⟨rfl, eT, hcl, hsl⟩)
  dsimp only [Pt.U, Pt.locs, Pt.cells, Pt.slots] at X' l1 y1 z1 stp hQ hS' hg' r1
  subst l1 y1 z1
  rw [eT] at hg'
  obtain ⟨q1, q2, q3, q4⟩ := rebS hS hk X' hS' hg' hZ hown
  exact Gl.of (fun t q => stp.trans q) (k v T' Lc q1 q2 q3 q4 hQ (hR.trans r1))
theorem Gl.callIH {G : State → Outcome → Prop} {vm0 : Vm} {k0 : Nat} (X : Stand p l e R (s.setVm vm0) m args below meth c T locs cells slots) (hx : p.tables.exec = Jvm.exec) (hZ : Z.Warmed39 (s.setVm vm0).vm) (hS : s.Since vm0 k0) (hk : k0 ≤ h.size) {vmS : Vm} {hh0 : Heap} (hEL : EW Z a0 EL) (hR : CHr Z EL vmS hh0 vm0 h) {own : String} {index : Nat} {y : MethodName} {bytes : ByteArray} {maxL : Nat} (hy1 : y.name = "<init>") (hown : (s.setVm vm0).vm.findClass own = some m.cls)
    (w1 : (Jvm.Cond.methodLink own index y).before a0 Z = true) (w2 : (Jvm.Cond.instanceMethod y).before a0 Z = true) (w3 : (Jvm.Cond.initialized y.cls).before a0 Z = true) (w4 : (Jvm.Cond.code y bytes maxL none).before a0 Z = true) (hy : y.cls ≠ "java/lang/invoke/MethodHandle" ∧ y.cls ≠ "java/lang/invoke/VarHandle")
    {rm : Room} {Q : Option Value → Heap → List Loc → Prop} {b : Addr} {argsL rest : List Value} (hM : ConH l Z EL y bytes maxL none [] rm rm.cells rm.slots (Value.ref b :: argsL).toArray h Q) (W : Nat) (hf : rm.frames + 1 ≤ R.frames) (hl : W + (maxL + 11) + rm.locals ≤ R.locals) (hcl : cells + rm.cells ≤ R.cells) (hsl : slots + rm.slots ≤ R.slots) (eT : T.heap = h)
    {pc : Nat} {Ls : Array Slot} {st : List Value} (hsz : Ls.size = c.maxLocals) {ps : List FieldType} {r' : Option FieldType} (hds : parseMethodDescriptor y.desc = some ⟨ps, r'⟩) (hlen : argsL.length = ps.length) (hst : st = argsL.reverse ++ .ref b :: rest) (hW : 2 * 0 + (rest.map fun v => v.category).sum ≤ W) (hd : decode c.code pc = .ok (.invokespecial index, 3))
    (k : ∀ (v : Option Value) (T' : State) (L : List Loc), Stand p l e R (s.setVm T'.vm) m args below meth c T' (locs ++ L) (cells + rm.cells) (slots + rm.slots) → s.Since T'.vm T'.heap.size → Z.Warmed39 (s.setVm T'.vm).vm → (s.setVm T'.vm).vm.findClass own = some m.cls → Q v T'.heap L → CHr Z EL vmS hh0 T'.vm T'.heap → Gl p e below G (T'.setTop (mkF m (pc + 3) Ls (v.toList ++ rest)))) : Gl p e below G (T.setTop (mkF m pc Ls st)) := by
  obtain ⟨v, _, ⟨T', L', k', n'⟩, -, X', hS', hg', ⟨Lc, hQ, l1, y1, z1, r1⟩, stp⟩ := X.specialBackS hx (y := y) hy1 hown (mvT hZ w1) (mvT hZ w2) (mvT hZ w4) hy (backOfSH (W := W) hM hZ w4 w3 hf hl hEL hR.1) (g := mkF m pc Ls st) rfl hsz (Steps.refl _) (a := b) (argsL := argsL) (rest := rest) (lenOf hds hlen) hst hW hd (fun _ _ => ⟨rfl, eT, hcl, hsl⟩)
  dsimp only [Pt.U, Pt.locs, Pt.cells, Pt.slots] at X' l1 y1 z1 stp hQ hS' hg' r1
  subst l1 y1 z1
  rw [eT] at hg'
  obtain ⟨q1, q2, q3, q4⟩ := rebS hS hk X' hS' hg' hZ hown
  exact Gl.of (fun t q => stp.trans q) (k v T' Lc q1 q2 q3 q4 hQ (hR.trans r1))
theorem Gl.callVH {G : State → Outcome → Prop} {vm0 : Vm} {k0 : Nat} (X : Stand p l e R (s.setVm vm0) m args below meth c T locs cells slots) (hx : p.tables.exec = Jvm.exec) (hZ : Z.Warmed39 (s.setVm vm0).vm) (hS : s.Since vm0 k0) (hk : k0 ≤ h.size) {vmS : Vm} {hh0 : Heap} (hEL : EW Z a0 EL) (hR : CHr Z EL vmS hh0 vm0 h) {own C : String} {index : Nat} {y z : MethodName} {bytes : ByteArray} {maxL : Nat} {rt : Option FieldType} (hown : (s.setVm vm0).vm.findClass own = some m.cls)
    (w1 : (Jvm.Cond.methodLink own index y).before a0 Z = true) (w2 : (Jvm.Cond.declares y).before a0 Z = true) (nf : NotFace (s.setVm vm0) y) (w5 : (Jvm.Cond.selects C y z).before a0 Z = true) (w6 : (Jvm.Cond.instanceMethod z).before a0 Z = true) (w4 : (Jvm.Cond.code z bytes maxL rt).before a0 Z = true) (w3 : (Jvm.Cond.initialized z.cls).before a0 Z = true) (hy : y.cls ≠ "java/lang/invoke/MethodHandle" ∧ y.cls ≠ "java/lang/invoke/VarHandle")
    {rm : Room} {Q : Option Value → Heap → List Loc → Prop} {b : Addr} {argsL rest : List Value} (hE : Exa Z h b C) (hM : ConH l Z EL z bytes maxL rt [] rm rm.cells rm.slots (Value.ref b :: argsL).toArray h Q) (W : Nat) (hf : rm.frames + 1 ≤ R.frames) (hl : W + (maxL + 11) + rm.locals ≤ R.locals) (hcl : cells + rm.cells ≤ R.cells) (hsl : slots + rm.slots ≤ R.slots) (eT : T.heap = h)
    {pc : Nat} {Ls : Array Slot} {st : List Value} (hsz : Ls.size = c.maxLocals) {ps : List FieldType} {r' : Option FieldType} (hds : parseMethodDescriptor y.desc = some ⟨ps, r'⟩) (hlen : argsL.length = ps.length) (hst : st = argsL.reverse ++ .ref b :: rest) (hW : 2 * 0 + (rest.map fun v => v.category).sum ≤ W) (hd : decode c.code pc = .ok (.invokevirtual index, 3))
    (k : ∀ (v : Option Value) (T' : State) (L : List Loc), Stand p l e R (s.setVm T'.vm) m args below meth c T' (locs ++ L) (cells + rm.cells) (slots + rm.slots) → s.Since T'.vm T'.heap.size → Z.Warmed39 (s.setVm T'.vm).vm → (s.setVm T'.vm).vm.findClass own = some m.cls → Q v T'.heap L → CHr Z EL vmS hh0 T'.vm T'.heap → Gl p e below G (T'.setTop (mkF m (pc + 3) Ls (v.toList ++ rest)))) : Gl p e below G (T.setTop (mkF m pc Ls st)) := by
  obtain ⟨cq, kq, qa, qb, qc⟩ := isOf hZ eT hE
  obtain ⟨v, _, ⟨T', L', k', n'⟩, -, X', hS', hg', ⟨Lc, hQ, l1, y1, z1, r1⟩, stp⟩ := X.virtualBackS hx (y := y) (z := z) hown (mvT hZ w1) (mvT hZ w2) nf (mvT hZ w5) (mvT hZ w6) hy (backOfSH (W := W) hM hZ w4 w3 hf hl hEL hR.1) qa qc (g := mkF m pc Ls st) rfl hsz (Steps.refl _) (argsL := argsL) (rest := rest) (lenOf hds hlen) hst hW hd (fun _ _ => ⟨rfl, eT, hcl, hsl⟩)
  dsimp only [Pt.U, Pt.locs, Pt.cells, Pt.slots] at X' l1 y1 z1 stp hQ hS' hg' r1
  subst l1 y1 z1
  rw [eT] at hg'
  obtain ⟨q1, q2, q3, q4⟩ := rebS hS hk X' hS' hg' hZ hown
  exact Gl.of (fun t q => stp.trans q) (k v T' Lc q1 q2 q3 q4 hQ (hR.trans r1))
theorem Gl.callU0 {G : State → Outcome → Prop} (X : Stand p l e R s m args below meth c T locs cells slots) (hx : p.tables.exec = Jvm.exec) (hZ : Z.Warmed39 s.vm) {own C owner : String} {index : Nat} {y z : MethodName} {bytes : ByteArray} {maxL : Nat} {rt : Option FieldType} (hown : s.vm.findClass own = some m.cls)
    (w1 : (Jvm.Cond.methodLink own index y).before a0 Z = true) (w0 : (Jvm.Cond.sameMethod y.cls owner y.name y.desc).before a0 Z = true) (w2 : (Jvm.Cond.declares ⟨owner, y.name, y.desc⟩).before a0 Z = true) (w3 : (Jvm.Cond.selects C y z).before a0 Z = true) (w4 : (Jvm.Cond.instanceMethod z).before a0 Z = true) (w5 : (Jvm.Cond.code z bytes maxL rt).before a0 Z = true) (w6 : (Jvm.Cond.initialized z.cls).before a0 Z = true) (hy : owner ≠ "java/lang/invoke/MethodHandle" ∧ owner ≠ "java/lang/invoke/VarHandle")
    {fr lo : Nat} {F : Option Value → Prop} {b : Addr} {argsL rest : List Value} (hE : Exa Z h b C) (hM : Con l Z z bytes maxL rt [] ({ frames := fr, cells := 0, slots := 0, locals := lo } : Room) 0 0 (.ref b :: argsL).toArray h (Pur F h)) (W : Nat) (hf : fr + 1 ≤ R.frames) (hl : W + (maxL + 11) + lo ≤ R.locals) (eT : T.heap = h)
    {pc : Nat} {Ls : Array Slot} {st : List Value} (hsz : Ls.size = c.maxLocals) {ps : List FieldType} {r' : Option FieldType} (hds : parseMethodDescriptor y.desc = some ⟨ps, r'⟩) (hlen : argsL.length = ps.length) (hst : st = argsL.reverse ++ .ref b :: rest) (hW : 2 * 0 + (rest.map fun v => v.category).sum ≤ W) (hd : decode c.code pc = .ok (.invokevirtual index, 3)) (hcl : cells ≤ R.cells) (hsl : slots ≤ R.slots)
    (k : ∀ (v : Option Value) (T' : State), Stand p l e R s m args below meth c T' locs cells slots → T'.heap = h → F v → Gl p e below G (T'.setTop (mkF m (pc + 3) Ls (v.toList ++ rest)))) : Gl p e below G (T.setTop (mkF m pc Ls st)) := by
  obtain ⟨cq, kq, qa, qb, qc⟩ := isOf hZ eT hE
  obtain ⟨v, _, ⟨T', L', k', n'⟩, -, X', ⟨Lc, hQ, l1, y1, z1⟩, stp⟩ := X.virtualBackUp hx (x := y) (y := z) (owner := owner) hown (mvT hZ w1) (mvT hZ w0) (mvT hZ w2) hy (mvT hZ w3) (mvT hZ w4) (backOf (W := W) hM hZ w5 w6 hf hl) qa qc (g := mkF m pc Ls st) rfl hsz (Steps.refl _) (argsL := argsL) (rest := rest) (lenOf hds hlen) hst hW hd (fun _ _ => ⟨rfl, eT, hcl, hsl⟩)
  dsimp only [Pt.U, Pt.locs, Pt.cells, Pt.slots] at X' l1 y1 z1 stp hQ
  obtain ⟨q1, q2, rfl⟩ := hQ
  subst l1 y1 z1
  rw [List.append_nil] at X'
  exact Gl.of (fun t q => stp.trans q) (k v T' X' q2 q1)
end OwnH
def own_fu : List Int32 := [70, 79, 82, 32, 85, 80, 68, 65, 84, 69]
def own_fs : List Int32 := [70, 79, 82, 32, 83, 72, 65, 82, 69]
def own_lm : List Int32 := [76, 79, 67, 75, 32, 73, 78, 32, 83, 72, 65, 82, 69, 32, 77, 79, 68, 69]
def own_EL : List (String × Nat) := consts_1
theorem w7 {Z : State} {a0 : Array Value} (hw : ∀ d ∈ tables_1, d.before a0 Z = true) : (Jvm.Cond.stringLink "com/example/schenley/schenley/DatabaseLockClausePinLaw" (33 : Nat) "FOR UPDATE").before a0 Z = true := hw _ (List.mem_of_getElem? (i := 7) rfl)
theorem w40 {Z : State} {a0 : Array Value} (hw : ∀ d ∈ tables_1, d.before a0 Z = true) : (Jvm.Cond.stringLink "com/example/schenley/schenley/DatabaseLockClausePinLaw" (31 : Nat) "FOR SHARE").before a0 Z = true := hw _ (List.mem_of_getElem? (i := 40) rfl)
theorem w56 {Z : State} {a0 : Array Value} (hw : ∀ d ∈ tables_1, d.before a0 Z = true) : (Jvm.Cond.stringLink "com/example/schenley/schenley/DatabaseLockClausePinLaw" (29 : Nat) "LOCK IN SHARE MODE").before a0 Z = true := hw _ (List.mem_of_getElem? (i := 56) rfl)
theorem w32 {Z : State} {a0 : Array Value} (hw : ∀ d ∈ tables_1, d.before a0 Z = true) : (Jvm.Cond.stringLink "com/example/schenley/schenley/Database" (141 : Nat) "FOR UPDATE").before a0 Z = true := hw _ (List.mem_of_getElem? (i := 32) rfl)
theorem own_el {Z : State} {a0 : Array Value} (hw : ∀ d ∈ tables_1, d.before a0 Z = true) : EW Z a0 own_EL := (EW.cons (w32 hw) (by decide) (EW.cons (w56 hw) (by decide) (EW.cons (w40 hw) (by decide) (EW.cons (w7 hw) (by decide) EW.nil))))
theorem ef_1 (m : MethodId) (x0 : Addr) : entryFrame m #[(.ref x0)] 1 = mkF m 0 #[.val (.ref x0)] [] := by first | (simp [entryFrame, mkF, argsToLocals, Value.category, maxLocals]; done) | rfl
theorem pn_0 : plainName "java/lang/Enum" = true := by first | (simp [plainName, overriddenIn]; done) | decide +kernel
theorem d2_0 : decode jdk_37_method_2_code 0 = .ok (.aload_n 0, 1) := by decide +kernel
theorem d2_1 : decode jdk_37_method_2_code 1 = .ok (.getfield 7, 3) := by decide +kernel
theorem w30 {Z : State} {a0 : Array Value} (hw : ∀ d ∈ tables_1, d.before a0 Z = true) : (Jvm.Cond.fieldLink "java/lang/Enum" (7 : Nat) "java/lang/Enum" "ordinal" "I").before a0 Z = true := hw _ (List.mem_of_getElem? (i := 30) rfl)
theorem d2_4 : decode jdk_37_method_2_code 4 = .ok (.ireturn, 1) := by decide +kernel
set_option maxRecDepth 65536 in
set_option maxHeartbeats 40000000 in
theorem rmO (l : Launch) (Z : State) (a0 : Array Value) (hw : ∀ d ∈ tables_1, d.before a0 Z = true) (h0 : Heap) (a1 : Addr) (z : Int32) (F1 : Fld Z h0 a1 "java/lang/Enum" "ordinal" "I" (.int z)) : Con l Z (⟨"java/lang/Enum", "ordinal", "()I"⟩ : MethodName) jdk_37_method_2_code 1 (some .int) [] ({ frames := 0, cells := 0, slots := 0, locals := 0 } : Room) 0 0 #[(.ref a1)] h0 (Pur (fun v => v = some (.int z)) h0) := by
  refine Con.intro (plainFor_of_name pn_0) ?_
  intro p e s m below meth c s₁ X0 hx hby hml hZ hown hnm hret hlk e0 hs0
  refine Gl.of (fun _ kq_ => castTop (ef_1 m a1) kq_) ?_
  show Gl p e below _ (s₁.setTop (mkF m 0 #[.val (.ref a1)] []))
  refine Gl.of (fun _ kq_ => XS.aloadN X0.here hx rfl (hb hby d2_0) rfl rfl kq_) ?_
  show Gl p e below _ (s₁.setTop (mkF m 1 #[.val (.ref a1)] [(.ref a1)]))
  obtain ⟨T1, X1, e1, st1⟩ := getF X0 hx hZ hown (host := "") (Or.inl (w30 hw)) Via.refl e0 F1 (g := (mkF m 1 #[.val (.ref a1)] [(.ref a1)])) rfl rfl (hb hby d2_1)
  refine Gl.of st1 ?_
  show Gl p e below _ (T1.setTop (mkF m 4 #[.val (.ref a1)] [(.int z)]))
  exact Gl.retI X1 hx hlk hret (hb hby d2_4) e1 (⟨rfl, rfl, rfl⟩) (by decide) (by decide)
theorem ef_2 (m : MethodId) (x0 : Addr) (x1 : Addr) : entryFrame m #[(.ref x0), (.ref x1)] 2 = mkF m 0 #[.val (.ref x0), .val (.ref x1)] [] := by first | (simp [entryFrame, mkF, argsToLocals, Value.category, maxLocals]; done) | rfl
theorem pn_1 : plainName "com/example/schenley/schenley/Database" = true := by first | (simp [plainName, overriddenIn]; done) | decide +kernel
theorem d1_0 : decode prog_1_method_7_code 0 = .ok (.getstatic 124, 3) := by decide +kernel
theorem w20 {Z : State} {a0 : Array Value} (hw : ∀ d ∈ tables_1, d.before a0 Z = true) : (Jvm.Cond.fieldLink "com/example/schenley/schenley/Database" (124 : Nat) "com/example/schenley/schenley/Database$3" "$SwitchMap$com$example$schenley$schenley$LockMode" "[I").before a0 Z = true := hw _ (List.mem_of_getElem? (i := 20) rfl)
theorem d1_3 : decode prog_1_method_7_code 3 = .ok (.aload_n 1, 1) := by decide +kernel
theorem d1_4 : decode prog_1_method_7_code 4 = .ok (.invokevirtual 130, 3) := by decide +kernel
theorem pd_0 : parseMethodDescriptor "()I" = some ⟨[], some .int⟩ := by decide +kernel
theorem w23 {Z : State} {a0 : Array Value} (hw : ∀ d ∈ tables_1, d.before a0 Z = true) : (Jvm.Cond.methodLink "com/example/schenley/schenley/Database" (130 : Nat) ({ cls := "com/example/schenley/schenley/LockMode", name := "ordinal", desc := "()I" } : Jvm.MethodName)).before a0 Z = true := hw _ (List.mem_of_getElem? (i := 23) rfl)
theorem w24 {Z : State} {a0 : Array Value} (hw : ∀ d ∈ tables_1, d.before a0 Z = true) : (Jvm.Cond.sameMethod "com/example/schenley/schenley/LockMode" "java/lang/Enum" "ordinal" "()I").before a0 Z = true := hw _ (List.mem_of_getElem? (i := 24) rfl)
theorem w25 {Z : State} {a0 : Array Value} (hw : ∀ d ∈ tables_1, d.before a0 Z = true) : (Jvm.Cond.declares ({ cls := "java/lang/Enum", name := "ordinal", desc := "()I" } : Jvm.MethodName)).before a0 Z = true := hw _ (List.mem_of_getElem? (i := 25) rfl)
theorem w27 {Z : State} {a0 : Array Value} (hw : ∀ d ∈ tables_1, d.before a0 Z = true) : (Jvm.Cond.selects "com/example/schenley/schenley/LockMode" ({ cls := "com/example/schenley/schenley/LockMode", name := "ordinal", desc := "()I" } : Jvm.MethodName) ({ cls := "java/lang/Enum", name := "ordinal", desc := "()I" } : Jvm.MethodName)).before a0 Z = true := hw _ (List.mem_of_getElem? (i := 27) rfl)
theorem w26 {Z : State} {a0 : Array Value} (hw : ∀ d ∈ tables_1, d.before a0 Z = true) : (Jvm.Cond.instanceMethod ({ cls := "java/lang/Enum", name := "ordinal", desc := "()I" } : Jvm.MethodName)).before a0 Z = true := hw _ (List.mem_of_getElem? (i := 26) rfl)
theorem w29 {Z : State} {a0 : Array Value} (hw : ∀ d ∈ tables_1, d.before a0 Z = true) : (Jvm.Cond.code ({ cls := "java/lang/Enum", name := "ordinal", desc := "()I" } : Jvm.MethodName) jdk_37_method_2_code (1 : Nat) (Option.some Jvm.ClassFile.FieldType.int)).before a0 Z = true := hw _ (List.mem_of_getElem? (i := 29) rfl)
theorem w28 {Z : State} {a0 : Array Value} (hw : ∀ d ∈ tables_1, d.before a0 Z = true) : (Jvm.Cond.initialized "java/lang/Enum").before a0 Z = true := hw _ (List.mem_of_getElem? (i := 28) rfl)
theorem d1_7 : decode prog_1_method_7_code 7 = .ok (.iaload, 1) := by decide +kernel
theorem d1_8 : decode prog_1_method_7_code 8 = .ok (.tableswitch 28 1 3 #[38, 38, 43], 28) := by decide +kernel
theorem d1_46 : decode prog_1_method_7_code 46 = .ok (.ldc 141, 2) := by decide +kernel
theorem d1_48 : decode prog_1_method_7_code 48 = .ok (.goto 7, 3) := by decide +kernel
theorem d1_55 : decode prog_1_method_7_code 55 = .ok (.areturn, 1) := by decide +kernel
set_option maxRecDepth 65536 in
set_option maxHeartbeats 40000000 in
theorem rmL0 (l : Launch) (Z : State) (a0 : Array Value) (hw : ∀ d ∈ tables_1, d.before a0 Z = true) (h0 : Heap) (a1 a2 ac : Addr) (clc : Cell) (n0 : Nat) (E2 : Exa Z h0 a2 "com/example/schenley/schenley/LockMode") (F2 : Fld Z h0 a2 "java/lang/Enum" "ordinal" "I" (.int (0 : Int32))) (Sv : Sta Z Z.heap "com/example/schenley/schenley/Database$3" "$SwitchMap$com$example$schenley$schenley$LockMode" "[I" (.ref ac)) (Av : Arr Z Z.heap ac clc .int) (zv : clc.slots.size = (3 : Int32).toNatClampNeg) (hv0 : clc.slots[0]? = some (.int 1)) (hv1 : clc.slots[1]? = some (.int 3)) (hv2 : clc.slots[2]? = some (.int 2)) (O0 : Old Z n0 h0) : ConH l Z own_EL (⟨"com/example/schenley/schenley/Database", "lockClause", "(Lcom/example/schenley/schenley/LockMode;)Ljava/lang/String;"⟩ : MethodName) prog_1_method_7_code 2 (some (.object "java/lang/String")) [] ({ frames := 1, cells := 2, slots := 44, locals := 13 } : Room) 2 44 #[(.ref a1), (.ref a2)] h0 (fun v h L => ∃ b t kb, v = some (.ref b) ∧ Strg Z h b t kb own_fu ∧ Ext h0 h ∧ L = []) := by
  refine ConH.intro (plainFor_of_name pn_1) ?_
  intro p e s m below meth c s₁ X0 hx hby hml hZ hown hnm hret hlk e0 hs0 hR0
  refine Gl.of (fun _ kq_ => castTop (ef_2 m a1 a2) kq_) ?_
  have hS0 := (State.WarmedH.refl s).since 0
  have hk0 : 0 ≤ h0.size := Nat.zero_le _
  show Gl p e below _ (s₁.setTop (mkF m 0 #[.val (.ref a1), .val (.ref a2)] []))
  obtain ⟨T1, X1, e1, st1⟩ := getS2 X0 hx hZ hown (host := "") (Or.inl (w20 hw)) Via.refl e0 (Sv.ext O0.2) (g := (mkF m 0 #[.val (.ref a1), .val (.ref a2)] [])) rfl (hb hby d1_0)
  refine Gl.of st1 ?_
  show Gl p e below _ (T1.setTop (mkF m 3 #[.val (.ref a1), .val (.ref a2)] [(.ref ac)]))
  refine Gl.of (fun _ kq_ => XS.aloadN X1.here hx rfl (hb hby d1_3) rfl rfl kq_) ?_
  show Gl p e below _ (T1.setTop (mkF m 4 #[.val (.ref a1), .val (.ref a2)] [(.ref a2), (.ref ac)]))
  refine Gl.callU0 X1 hx hZ (y := (⟨"com/example/schenley/schenley/LockMode", "ordinal", "()I"⟩ : MethodName)) (z := (⟨"java/lang/Enum", "ordinal", "()I"⟩ : MethodName)) (owner := "java/lang/Enum") hown (w23 hw) (w24 hw) (w25 hw) (w27 hw) (w26 hw) (w29 hw) (w28 hw) (desc_ne (by decide)) (b := a2) (argsL := []) (rest := [(.ref ac)]) E2 (rmO l Z a0 hw _ a2 (0 : Int32) F2) 1 (by decide) (by decide) e1 (pc := 4) (Ls := #[.val (.ref a1), .val (.ref a2)]) (st := [(.ref a2), (.ref ac)]) (by rw [hml]; rfl) pd_0 rfl rfl (Nat.le_of_eq rfl) (hb hby d1_4) (by decide) (by decide) ?_
  intro v2 T2 X2 e2 hv2
  subst hv2
  show Gl p e below _ (T2.setTop (mkF m 7 #[.val (.ref a1), .val (.ref a2)] [(.int (0 : Int32)), (.ref ac)]))
  refine Gl.of (fun _ kq_ => X2.iaload hx (j := (0 : Int32)) (v := (.int (1 : Int32))) (by rw [e2]; exact ((Av.ext O0.2)).1) (State.isArrayOf_alike hZ.alike ((Av.ext O0.2)).2.1) ((Av.ext O0.2)).2.2 (inb_of zv ⟨by decide, by decide⟩) (show clc.slots[((0 : Int32)).toNatClampNeg]? = some (.int (1 : Int32)) from hv0) (g := (mkF m 7 #[.val (.ref a1), .val (.ref a2)] [(.int (0 : Int32)), (.ref ac)])) rfl rfl (hb hby d1_7) _ kq_) ?_
  show Gl p e below _ (T2.setTop (mkF m 8 #[.val (.ref a1), .val (.ref a2)] [(.int (1 : Int32))]))
  refine Gl.of (fun _ kq_ => XS.tswIn X2.here hx rfl (pc0 := 8) (pc' := 46) (o := 38) (g := (mkF m 8 #[.val (.ref a1), .val (.ref a2)] [(.int (1 : Int32))])) rfl (hb hby d1_8) rfl (by decide) (by decide) (by decide) (by decide) kq_) ?_
  show Gl p e below _ (T2.setTop (mkF m 46 #[.val (.ref a1), .val (.ref a2)] []))
  obtain ⟨b3, T3, h3, k3, t3, kb3, X3, e3, E3, hS3, hk3, hZ, hown, Ea3, Ca3, Va3, Ba3, -, -, rr3, -, sf3, st3⟩ := ldcCH X2 hx hZ hown (w32 hw) (own_str hw) e2 hS0 hk0 (own_el hw) (by decide) hR0.1 (vs := (own_fu.map (fun c => c.toInt8.toInt32)).map Value.int) (z := Int32.ofNat own_fu.length) ⟨by decide, rfl⟩ (by decide) (by decide) (g := (mkF m 46 #[.val (.ref a1), .val (.ref a2)] [])) rfl (hb hby d1_46) (n := 40) (by decide) (by decide) (by decide) (by decide)
  refine Gl.of st3 ?_
  have hR3 := hR0.trans rr3
  have SG3 : Strg Z h3 b3 t3 kb3 own_fu := ⟨Ea3, Va3, Ca3, Ba3, by decide, by decide⟩
  have ec4 := E2.ext E3
  have fc5 := F2.ext E3
  have ac6 := (Av.ext O0.2).ext E3
  have O3 := O0.ext E3
  show Gl p e below _ (T3.setTop (mkF m 48 #[.val (.ref a1), .val (.ref a2)] [(.ref b3)]))
  refine Gl.of (fun _ kq_ => XS.goto X3.here hx rfl (pc0 := 48) (pc' := 55) rfl (hb hby d1_48) (by decide) (by decide) kq_) ?_
  show Gl p e below _ (T3.setTop (mkF m 55 #[.val (.ref a1), .val (.ref a2)] [(.ref b3)]))
  exact Gl.retRH X3 hx hlk hret rfl rfl (hb hby d1_55) e3 (⟨_, _, _, rfl, SG3, E3, rfl⟩) hS3 hk3 hZ (own_el hw) hR3 (by decide) (by decide)
theorem ef_3 (m : MethodId) (x0 : Addr) (x1 : Addr) : entryFrame m #[(.ref x0), (.ref x1)] 2 = mkF m 0 #[.val (.ref x0), .val (.ref x1)] [] := by first | (simp [entryFrame, mkF, argsToLocals, Value.category, maxLocals]; done) | rfl
theorem d1_51 : decode prog_1_method_7_code 51 = .ok (.aload_n 0, 1) := by decide +kernel
theorem d1_52 : decode prog_1_method_7_code 52 = .ok (.getfield 46, 3) := by decide +kernel
theorem w41 {Z : State} {a0 : Array Value} (hw : ∀ d ∈ tables_1, d.before a0 Z = true) : (Jvm.Cond.fieldLink "com/example/schenley/schenley/Database" (46 : Nat) "com/example/schenley/schenley/Database" "sharedLockClause" "Ljava/lang/String;").before a0 Z = true := hw _ (List.mem_of_getElem? (i := 41) rfl)
set_option maxRecDepth 65536 in
set_option maxHeartbeats 40000000 in
theorem rmL1 (l : Launch) (Z : State) (a0 : Array Value) (hw : ∀ d ∈ tables_1, d.before a0 Z = true) (h0 : Heap) (a1 a2 x1 ac : Addr) (clc : Cell) (n0 : Nat) (F1 : Fld Z h0 a1 "com/example/schenley/schenley/Database" "sharedLockClause" "Ljava/lang/String;" (.ref x1)) (E2 : Exa Z h0 a2 "com/example/schenley/schenley/LockMode") (F2 : Fld Z h0 a2 "java/lang/Enum" "ordinal" "I" (.int (1 : Int32))) (Sv : Sta Z Z.heap "com/example/schenley/schenley/Database$3" "$SwitchMap$com$example$schenley$schenley$LockMode" "[I" (.ref ac)) (Av : Arr Z Z.heap ac clc .int) (zv : clc.slots.size = (3 : Int32).toNatClampNeg) (hv0 : clc.slots[0]? = some (.int 1)) (hv1 : clc.slots[1]? = some (.int 3)) (hv2 : clc.slots[2]? = some (.int 2)) (O0 : Old Z n0 h0) : Con l Z (⟨"com/example/schenley/schenley/Database", "lockClause", "(Lcom/example/schenley/schenley/LockMode;)Ljava/lang/String;"⟩ : MethodName) prog_1_method_7_code 2 (some (.object "java/lang/String")) [] ({ frames := 1, cells := 0, slots := 0, locals := 13 } : Room) 0 0 #[(.ref a1), (.ref a2)] h0 (Pur (fun v => v = some (.ref x1)) h0) := by
  refine Con.intro (plainFor_of_name pn_1) ?_
  intro p e s m below meth c s₁ X0 hx hby hml hZ hown hnm hret hlk e0 hs0
  refine Gl.of (fun _ kq_ => castTop (ef_3 m a1 a2) kq_) ?_
  show Gl p e below _ (s₁.setTop (mkF m 0 #[.val (.ref a1), .val (.ref a2)] []))
  obtain ⟨T1, X1, e1, st1⟩ := getS2 X0 hx hZ hown (host := "") (Or.inl (w20 hw)) Via.refl e0 (Sv.ext O0.2) (g := (mkF m 0 #[.val (.ref a1), .val (.ref a2)] [])) rfl (hb hby d1_0)
  refine Gl.of st1 ?_
  show Gl p e below _ (T1.setTop (mkF m 3 #[.val (.ref a1), .val (.ref a2)] [(.ref ac)]))
  refine Gl.of (fun _ kq_ => XS.aloadN X1.here hx rfl (hb hby d1_3) rfl rfl kq_) ?_
  show Gl p e below _ (T1.setTop (mkF m 4 #[.val (.ref a1), .val (.ref a2)] [(.ref a2), (.ref ac)]))
  refine Gl.callU0 X1 hx hZ (y := (⟨"com/example/schenley/schenley/LockMode", "ordinal", "()I"⟩ : MethodName)) (z := (⟨"java/lang/Enum", "ordinal", "()I"⟩ : MethodName)) (owner := "java/lang/Enum") hown (w23 hw) (w24 hw) (w25 hw) (w27 hw) (w26 hw) (w29 hw) (w28 hw) (desc_ne (by decide)) (b := a2) (argsL := []) (rest := [(.ref ac)]) E2 (rmO l Z a0 hw _ a2 (1 : Int32) F2) 1 (by decide) (by decide) e1 (pc := 4) (Ls := #[.val (.ref a1), .val (.ref a2)]) (st := [(.ref a2), (.ref ac)]) (by rw [hml]; rfl) pd_0 rfl rfl (Nat.le_of_eq rfl) (hb hby d1_4) (by decide) (by decide) ?_
  intro v2 T2 X2 e2 hv2
  subst hv2
  show Gl p e below _ (T2.setTop (mkF m 7 #[.val (.ref a1), .val (.ref a2)] [(.int (1 : Int32)), (.ref ac)]))
  refine Gl.of (fun _ kq_ => X2.iaload hx (j := (1 : Int32)) (v := (.int (3 : Int32))) (by rw [e2]; exact ((Av.ext O0.2)).1) (State.isArrayOf_alike hZ.alike ((Av.ext O0.2)).2.1) ((Av.ext O0.2)).2.2 (inb_of zv ⟨by decide, by decide⟩) (show clc.slots[((1 : Int32)).toNatClampNeg]? = some (.int (3 : Int32)) from hv1) (g := (mkF m 7 #[.val (.ref a1), .val (.ref a2)] [(.int (1 : Int32)), (.ref ac)])) rfl rfl (hb hby d1_7) _ kq_) ?_
  show Gl p e below _ (T2.setTop (mkF m 8 #[.val (.ref a1), .val (.ref a2)] [(.int (3 : Int32))]))
  refine Gl.of (fun _ kq_ => XS.tswIn X2.here hx rfl (pc0 := 8) (pc' := 51) (o := 43) (g := (mkF m 8 #[.val (.ref a1), .val (.ref a2)] [(.int (3 : Int32))])) rfl (hb hby d1_8) rfl (by decide) (by decide) (by decide) (by decide) kq_) ?_
  show Gl p e below _ (T2.setTop (mkF m 51 #[.val (.ref a1), .val (.ref a2)] []))
  refine Gl.of (fun _ kq_ => XS.aloadN X2.here hx rfl (hb hby d1_51) rfl rfl kq_) ?_
  show Gl p e below _ (T2.setTop (mkF m 52 #[.val (.ref a1), .val (.ref a2)] [(.ref a1)]))
  obtain ⟨T3, X3, e3, st3⟩ := getF X2 hx hZ hown (host := "") (Or.inl (w41 hw)) Via.refl e2 F1 (g := (mkF m 52 #[.val (.ref a1), .val (.ref a2)] [(.ref a1)])) rfl rfl (hb hby d1_52)
  refine Gl.of st3 ?_
  show Gl p e below _ (T3.setTop (mkF m 55 #[.val (.ref a1), .val (.ref a2)] [(.ref x1)]))
  exact Gl.retR X3 hx hlk hret rfl rfl (hb hby d1_55) e3 (⟨rfl, rfl, rfl⟩) (by decide) (by decide)
theorem ef_4 (m : MethodId) (x0 : Addr) (x1 : Addr) : entryFrame m #[(.ref x0), (.ref x1)] 2 = mkF m 0 #[.val (.ref x0), .val (.ref x1)] [] := by first | (simp [entryFrame, mkF, argsToLocals, Value.category, maxLocals]; done) | rfl
set_option maxRecDepth 65536 in
set_option maxHeartbeats 40000000 in
theorem rmL2 (l : Launch) (Z : State) (a0 : Array Value) (hw : ∀ d ∈ tables_1, d.before a0 Z = true) (h0 : Heap) (a1 a2 ac : Addr) (clc : Cell) (n0 : Nat) (E2 : Exa Z h0 a2 "com/example/schenley/schenley/LockMode") (F2 : Fld Z h0 a2 "java/lang/Enum" "ordinal" "I" (.int (2 : Int32))) (Sv : Sta Z Z.heap "com/example/schenley/schenley/Database$3" "$SwitchMap$com$example$schenley$schenley$LockMode" "[I" (.ref ac)) (Av : Arr Z Z.heap ac clc .int) (zv : clc.slots.size = (3 : Int32).toNatClampNeg) (hv0 : clc.slots[0]? = some (.int 1)) (hv1 : clc.slots[1]? = some (.int 3)) (hv2 : clc.slots[2]? = some (.int 2)) (O0 : Old Z n0 h0) : ConH l Z own_EL (⟨"com/example/schenley/schenley/Database", "lockClause", "(Lcom/example/schenley/schenley/LockMode;)Ljava/lang/String;"⟩ : MethodName) prog_1_method_7_code 2 (some (.object "java/lang/String")) [] ({ frames := 1, cells := 2, slots := 44, locals := 13 } : Room) 2 44 #[(.ref a1), (.ref a2)] h0 (fun v h L => ∃ b t kb, v = some (.ref b) ∧ Strg Z h b t kb own_fu ∧ Ext h0 h ∧ L = []) := by
  refine ConH.intro (plainFor_of_name pn_1) ?_
  intro p e s m below meth c s₁ X0 hx hby hml hZ hown hnm hret hlk e0 hs0 hR0
  refine Gl.of (fun _ kq_ => castTop (ef_4 m a1 a2) kq_) ?_
  have hS0 := (State.WarmedH.refl s).since 0
  have hk0 : 0 ≤ h0.size := Nat.zero_le _
  show Gl p e below _ (s₁.setTop (mkF m 0 #[.val (.ref a1), .val (.ref a2)] []))
  obtain ⟨T1, X1, e1, st1⟩ := getS2 X0 hx hZ hown (host := "") (Or.inl (w20 hw)) Via.refl e0 (Sv.ext O0.2) (g := (mkF m 0 #[.val (.ref a1), .val (.ref a2)] [])) rfl (hb hby d1_0)
  refine Gl.of st1 ?_
  show Gl p e below _ (T1.setTop (mkF m 3 #[.val (.ref a1), .val (.ref a2)] [(.ref ac)]))
  refine Gl.of (fun _ kq_ => XS.aloadN X1.here hx rfl (hb hby d1_3) rfl rfl kq_) ?_
  show Gl p e below _ (T1.setTop (mkF m 4 #[.val (.ref a1), .val (.ref a2)] [(.ref a2), (.ref ac)]))
  refine Gl.callU0 X1 hx hZ (y := (⟨"com/example/schenley/schenley/LockMode", "ordinal", "()I"⟩ : MethodName)) (z := (⟨"java/lang/Enum", "ordinal", "()I"⟩ : MethodName)) (owner := "java/lang/Enum") hown (w23 hw) (w24 hw) (w25 hw) (w27 hw) (w26 hw) (w29 hw) (w28 hw) (desc_ne (by decide)) (b := a2) (argsL := []) (rest := [(.ref ac)]) E2 (rmO l Z a0 hw _ a2 (2 : Int32) F2) 1 (by decide) (by decide) e1 (pc := 4) (Ls := #[.val (.ref a1), .val (.ref a2)]) (st := [(.ref a2), (.ref ac)]) (by rw [hml]; rfl) pd_0 rfl rfl (Nat.le_of_eq rfl) (hb hby d1_4) (by decide) (by decide) ?_
  intro v2 T2 X2 e2 hv2
  subst hv2
  show Gl p e below _ (T2.setTop (mkF m 7 #[.val (.ref a1), .val (.ref a2)] [(.int (2 : Int32)), (.ref ac)]))
  refine Gl.of (fun _ kq_ => X2.iaload hx (j := (2 : Int32)) (v := (.int (2 : Int32))) (by rw [e2]; exact ((Av.ext O0.2)).1) (State.isArrayOf_alike hZ.alike ((Av.ext O0.2)).2.1) ((Av.ext O0.2)).2.2 (inb_of zv ⟨by decide, by decide⟩) (show clc.slots[((2 : Int32)).toNatClampNeg]? = some (.int (2 : Int32)) from hv2) (g := (mkF m 7 #[.val (.ref a1), .val (.ref a2)] [(.int (2 : Int32)), (.ref ac)])) rfl rfl (hb hby d1_7) _ kq_) ?_
  show Gl p e below _ (T2.setTop (mkF m 8 #[.val (.ref a1), .val (.ref a2)] [(.int (2 : Int32))]))
  refine Gl.of (fun _ kq_ => XS.tswIn X2.here hx rfl (pc0 := 8) (pc' := 46) (o := 38) (g := (mkF m 8 #[.val (.ref a1), .val (.ref a2)] [(.int (2 : Int32))])) rfl (hb hby d1_8) rfl (by decide) (by decide) (by decide) (by decide) kq_) ?_
  show Gl p e below _ (T2.setTop (mkF m 46 #[.val (.ref a1), .val (.ref a2)] []))
  obtain ⟨b3, T3, h3, k3, t3, kb3, X3, e3, E3, hS3, hk3, hZ, hown, Ea3, Ca3, Va3, Ba3, -, -, rr3, -, sf3, st3⟩ := ldcCH X2 hx hZ hown (w32 hw) (own_str hw) e2 hS0 hk0 (own_el hw) (by decide) hR0.1 (vs := (own_fu.map (fun c => c.toInt8.toInt32)).map Value.int) (z := Int32.ofNat own_fu.length) ⟨by decide, rfl⟩ (by decide) (by decide) (g := (mkF m 46 #[.val (.ref a1), .val (.ref a2)] [])) rfl (hb hby d1_46) (n := 40) (by decide) (by decide) (by decide) (by decide)
  refine Gl.of st3 ?_
  have hR3 := hR0.trans rr3
  have SG3 : Strg Z h3 b3 t3 kb3 own_fu := ⟨Ea3, Va3, Ca3, Ba3, by decide, by decide⟩
  have ec4 := E2.ext E3
  have fc5 := F2.ext E3
  have ac6 := (Av.ext O0.2).ext E3
  have O3 := O0.ext E3
  show Gl p e below _ (T3.setTop (mkF m 48 #[.val (.ref a1), .val (.ref a2)] [(.ref b3)]))
  refine Gl.of (fun _ kq_ => XS.goto X3.here hx rfl (pc0 := 48) (pc' := 55) rfl (hb hby d1_48) (by decide) (by decide) kq_) ?_
  show Gl p e below _ (T3.setTop (mkF m 55 #[.val (.ref a1), .val (.ref a2)] [(.ref b3)]))
  exact Gl.retRH X3 hx hlk hret rfl rfl (hb hby d1_55) e3 (⟨_, _, _, rfl, SG3, E3, rfl⟩) hS3 hk3 hZ (own_el hw) hR3 (by decide) (by decide)
theorem ef_5 (m : MethodId) (x0 : Int32) (x1 : Int32) : entryFrame m #[(.int x0), (.int x1)] maxLocals = mkF m 0 #[.val (.int x0), .val (.int x1), .unset, .unset, .unset, .unset, .unset, .unset] [] := by first | (simp [entryFrame, mkF, argsToLocals, Value.category, maxLocals]; done) | rfl
theorem pn_2 : plainName "com/example/schenley/schenley/DatabaseLockClausePinLaw" = true := by first | (simp [plainName, overriddenIn]; done) | decide +kernel
theorem w0 {Z : State} {a0 : Array Value} (hw : ∀ d ∈ tables_1, d.before a0 Z = true) : (Jvm.Cond.fieldLink "com/example/schenley/schenley/DatabaseLockClausePinLaw" (13 : Nat) "com/example/schenley/schenley/Database" "POSTGRESQL" "Lcom/example/schenley/schenley/Database;").before a0 Z = true := hw _ (List.mem_of_getElem? (i := 0) rfl)
theorem w3 {Z : State} {a0 : Array Value} (hw : ∀ d ∈ tables_1, d.before a0 Z = true) : (Jvm.Cond.constant "com/example/schenley/schenley/DatabaseLockClausePinLaw" (16 : Nat) (2147483647 : Int32)).before a0 Z = true := hw _ (List.mem_of_getElem? (i := 3) rfl)
theorem w4 {Z : State} {a0 : Array Value} (hw : ∀ d ∈ tables_1, d.before a0 Z = true) : (Jvm.Cond.fieldLink "com/example/schenley/schenley/DatabaseLockClausePinLaw" (17 : Nat) "com/example/schenley/schenley/LockMode" "EXCLUSIVE" "Lcom/example/schenley/schenley/LockMode;").before a0 Z = true := hw _ (List.mem_of_getElem? (i := 4) rfl)
theorem pd_1 : parseMethodDescriptor "(Lcom/example/schenley/schenley/LockMode;)Ljava/lang/String;" = some ⟨[(.object "com/example/schenley/schenley/LockMode")], some (.object "java/lang/String")⟩ := by decide +kernel
theorem w18 {Z : State} {a0 : Array Value} (hw : ∀ d ∈ tables_1, d.before a0 Z = true) : (Jvm.Cond.selects "com/example/schenley/schenley/Database$1" ({ cls := "com/example/schenley/schenley/Database", name := "lockClause", desc := "(Lcom/example/schenley/schenley/LockMode;)Ljava/lang/String;" } : Jvm.MethodName) ({ cls := "com/example/schenley/schenley/Database", name := "lockClause", desc := "(Lcom/example/schenley/schenley/LockMode;)Ljava/lang/String;" } : Jvm.MethodName)).before a0 Z = true := hw _ (List.mem_of_getElem? (i := 18) rfl)
theorem w15 {Z : State} {a0 : Array Value} (hw : ∀ d ∈ tables_1, d.before a0 Z = true) : (Jvm.Cond.methodLink "com/example/schenley/schenley/DatabaseLockClausePinLaw" (35 : Nat) ({ cls := "com/example/schenley/schenley/Database", name := "lockClause", desc := "(Lcom/example/schenley/schenley/LockMode;)Ljava/lang/String;" } : Jvm.MethodName)).before a0 Z = true := hw _ (List.mem_of_getElem? (i := 15) rfl)
theorem w16 {Z : State} {a0 : Array Value} (hw : ∀ d ∈ tables_1, d.before a0 Z = true) : (Jvm.Cond.declares ({ cls := "com/example/schenley/schenley/Database", name := "lockClause", desc := "(Lcom/example/schenley/schenley/LockMode;)Ljava/lang/String;" } : Jvm.MethodName)).before a0 Z = true := hw _ (List.mem_of_getElem? (i := 16) rfl)
theorem w17 {Z : State} {a0 : Array Value} (hw : ∀ d ∈ tables_1, d.before a0 Z = true) : (Jvm.Cond.instanceMethod ({ cls := "com/example/schenley/schenley/Database", name := "lockClause", desc := "(Lcom/example/schenley/schenley/LockMode;)Ljava/lang/String;" } : Jvm.MethodName)).before a0 Z = true := hw _ (List.mem_of_getElem? (i := 17) rfl)
theorem w19 {Z : State} {a0 : Array Value} (hw : ∀ d ∈ tables_1, d.before a0 Z = true) : (Jvm.Cond.code ({ cls := "com/example/schenley/schenley/Database", name := "lockClause", desc := "(Lcom/example/schenley/schenley/LockMode;)Ljava/lang/String;" } : Jvm.MethodName) prog_1_method_7_code (2 : Nat) (Option.some (Jvm.ClassFile.FieldType.object "java/lang/String"))).before a0 Z = true := hw _ (List.mem_of_getElem? (i := 19) rfl)
theorem w1 {Z : State} {a0 : Array Value} (hw : ∀ d ∈ tables_1, d.before a0 Z = true) : (Jvm.Cond.initialized "com/example/schenley/schenley/Database").before a0 Z = true := hw _ (List.mem_of_getElem? (i := 1) rfl)
theorem w9 {Z : State} {a0 : Array Value} (hw : ∀ d ∈ tables_1, d.before a0 Z = true) : (Jvm.Cond.instantiable "java/lang/String" (4 : Nat)).before a0 Z = true := hw _ (List.mem_of_getElem? (i := 9) rfl)
theorem w33 {Z : State} {a0 : Array Value} (hw : ∀ d ∈ tables_1, d.before a0 Z = true) : (Jvm.Cond.methodLink "com/example/schenley/schenley/DatabaseLockClausePinLaw" (39 : Nat) ({ cls := "java/lang/String", name := "equals", desc := "(Ljava/lang/Object;)Z" } : Jvm.MethodName)).before a0 Z = true := hw _ (List.mem_of_getElem? (i := 33) rfl)
theorem w34 {Z : State} {a0 : Array Value} (hw : ∀ d ∈ tables_1, d.before a0 Z = true) : (Jvm.Cond.declares ({ cls := "java/lang/String", name := "equals", desc := "(Ljava/lang/Object;)Z" } : Jvm.MethodName)).before a0 Z = true := hw _ (List.mem_of_getElem? (i := 34) rfl)
theorem w36 {Z : State} {a0 : Array Value} (hw : ∀ d ∈ tables_1, d.before a0 Z = true) : (Jvm.Cond.selects "java/lang/String" ({ cls := "java/lang/String", name := "equals", desc := "(Ljava/lang/Object;)Z" } : Jvm.MethodName) ({ cls := "java/lang/String", name := "equals", desc := "(Ljava/lang/Object;)Z" } : Jvm.MethodName)).before a0 Z = true := hw _ (List.mem_of_getElem? (i := 36) rfl)
theorem w35 {Z : State} {a0 : Array Value} (hw : ∀ d ∈ tables_1, d.before a0 Z = true) : (Jvm.Cond.instanceMethod ({ cls := "java/lang/String", name := "equals", desc := "(Ljava/lang/Object;)Z" } : Jvm.MethodName)).before a0 Z = true := hw _ (List.mem_of_getElem? (i := 35) rfl)
theorem pd_2 : parseMethodDescriptor "(Ljava/lang/Object;)Z" = some ⟨[(.object "java/lang/Object")], some .boolean⟩ := by decide +kernel
theorem w38 {Z : State} {a0 : Array Value} (hw : ∀ d ∈ tables_1, d.before a0 Z = true) : (Jvm.Cond.fieldLink "com/example/schenley/schenley/DatabaseLockClausePinLaw" (23 : Nat) "com/example/schenley/schenley/LockMode" "SHARED" "Lcom/example/schenley/schenley/LockMode;").before a0 Z = true := hw _ (List.mem_of_getElem? (i := 38) rfl)
theorem w52 {Z : State} {a0 : Array Value} (hw : ∀ d ∈ tables_1, d.before a0 Z = true) : (Jvm.Cond.fieldLink "com/example/schenley/schenley/DatabaseLockClausePinLaw" (26 : Nat) "com/example/schenley/schenley/LockMode" "FORCE_INCREMENT" "Lcom/example/schenley/schenley/LockMode;").before a0 Z = true := hw _ (List.mem_of_getElem? (i := 52) rfl)
theorem w54 {Z : State} {a0 : Array Value} (hw : ∀ d ∈ tables_1, d.before a0 Z = true) : (Jvm.Cond.fieldLink "com/example/schenley/schenley/DatabaseLockClausePinLaw" (7 : Nat) "com/example/schenley/schenley/Database" "MARIADB" "Lcom/example/schenley/schenley/Database;").before a0 Z = true := hw _ (List.mem_of_getElem? (i := 54) rfl)
theorem w57 {Z : State} {a0 : Array Value} (hw : ∀ d ∈ tables_1, d.before a0 Z = true) : (Jvm.Cond.selects "com/example/schenley/schenley/Database$2" ({ cls := "com/example/schenley/schenley/Database", name := "lockClause", desc := "(Lcom/example/schenley/schenley/LockMode;)Ljava/lang/String;" } : Jvm.MethodName) ({ cls := "com/example/schenley/schenley/Database", name := "lockClause", desc := "(Lcom/example/schenley/schenley/LockMode;)Ljava/lang/String;" } : Jvm.MethodName)).before a0 Z = true := hw _ (List.mem_of_getElem? (i := 57) rfl)
set_option maxRecDepth 65536 in
set_option maxHeartbeats 40000000 in
theorem rm0 (l : Launch) (Z : State) (a0 : Array Value) (hw : ∀ d ∈ tables_1, d.before a0 Z = true) (ws : List Jvm.Cond) (h0 : Heap) (p1 p2 : Int32) (cz : Int32) (d0 d1 m0 m1 m2 x0 x1 t0 t1 ac : Addr) (kb0 kb1 : ClassId) (clc : Cell) (n0 : Nat) (SC : Sta Z Z.heap "java/lang/String" "COMPACT_STRINGS" "Z" (.int cz)) (hcz : ¬ cz = 0) (Sv : Sta Z Z.heap "com/example/schenley/schenley/Database$3" "$SwitchMap$com$example$schenley$schenley$LockMode" "[I" (.ref ac)) (Av : Arr Z Z.heap ac clc .int) (zv : clc.slots.size = (3 : Int32).toNatClampNeg) (hv0 : clc.slots[0]? = some (.int 1)) (hv1 : clc.slots[1]? = some (.int 3)) (hv2 : clc.slots[2]? = some (.int 2)) (Sd0 : Sta Z Z.heap "com/example/schenley/schenley/Database" "POSTGRESQL" "Lcom/example/schenley/schenley/Database;" (.ref d0)) (Sd1 : Sta Z Z.heap "com/example/schenley/schenley/Database" "MARIADB" "Lcom/example/schenley/schenley/Database;" (.ref d1)) (Sm0 : Sta Z Z.heap "com/example/schenley/schenley/LockMode" "EXCLUSIVE" "Lcom/example/schenley/schenley/LockMode;" (.ref m0)) (Sm1 : Sta Z Z.heap "com/example/schenley/schenley/LockMode" "SHARED" "Lcom/example/schenley/schenley/LockMode;" (.ref m1)) (Sm2 : Sta Z Z.heap "com/example/schenley/schenley/LockMode" "FORCE_INCREMENT" "Lcom/example/schenley/schenley/LockMode;" (.ref m2)) (Ed0 : Exa Z Z.heap d0 "com/example/schenley/schenley/Database$1") (Ed1 : Exa Z Z.heap d1 "com/example/schenley/schenley/Database$2") (Em0 : Exa Z Z.heap m0 "com/example/schenley/schenley/LockMode") (Em1 : Exa Z Z.heap m1 "com/example/schenley/schenley/LockMode") (Em2 : Exa Z Z.heap m2 "com/example/schenley/schenley/LockMode") (Fm0 : Fld Z Z.heap m0 "java/lang/Enum" "ordinal" "I" (.int (0 : Int32))) (Fm1 : Fld Z Z.heap m1 "java/lang/Enum" "ordinal" "I" (.int (1 : Int32))) (Fm2 : Fld Z Z.heap m2 "java/lang/Enum" "ordinal" "I" (.int (2 : Int32))) (Fd0 : Fld Z Z.heap d0 "com/example/schenley/schenley/Database" "sharedLockClause" "Ljava/lang/String;" (.ref x0)) (Fd1 : Fld Z Z.heap d1 "com/example/schenley/schenley/Database" "sharedLockClause" "Ljava/lang/String;" (.ref x1)) (SGa : Strg Z Z.heap x0 t0 kb0 own_fs) (SGb : Strg Z Z.heap x1 t1 kb1 own_lm) (O0 : Old Z n0 h0) : ConH l Z own_EL x code maxLocals ret ws room_1 8 4160 #[(.int p1), (.int p2)] h0 (fun v h L => v = some (.int 1) ∧ Fr n0 L) := by
  refine ConH.intro (plainFor_of_name pn_2) ?_
  intro p e s m below meth c s₁ X0 hx hby hml hZ hown hnm hret hlk e0 hs0 hR0
  refine Gl.of (fun _ kq_ => castTop (ef_5 m p1 p2) kq_) ?_
  have hS0 := (State.WarmedH.refl s).since 0
  have hk0 : 0 ≤ h0.size := Nat.zero_le _
  have ed0 := Ed0.ext O0.2
  have fd0 := Fd0.ext O0.2
  have sg0 := SGa.ext O0.2
  have ed1 := Ed1.ext O0.2
  have fd1 := Fd1.ext O0.2
  have sg1 := SGb.ext O0.2
  have em0 := Em0.ext O0.2
  have fm0 := Fm0.ext O0.2
  have em1 := Em1.ext O0.2
  have fm1 := Fm1.ext O0.2
  have em2 := Em2.ext O0.2
  have fm2 := Fm2.ext O0.2
  show Gl p e below _ (s₁.setTop (mkF m 0 #[.val (.int p1), .val (.int p2), .unset, .unset, .unset, .unset, .unset, .unset] []))
  refine Gl.of (fun _ kq_ => XS.iloadN X0.here hx rfl (hb hby at_0) rfl kq_) ?_
  show Gl p e below _ (s₁.setTop (mkF m 1 #[.val (.int p1), .val (.int p2), .unset, .unset, .unset, .unset, .unset, .unset] [(.int p1)]))
  refine Gl.of (fun _ kq_ => XS.iconst X0.here hx rfl (hb hby at_1) kq_) ?_
  show Gl p e below _ (s₁.setTop (mkF m 2 #[.val (.int p1), .val (.int p2), .unset, .unset, .unset, .unset, .unset, .unset] [(.int (1 : Int32)), (.int p1)]))
  refine Gl.of (fun _ kq_ => XS.iand X0.here hx rfl (hb hby at_2) rfl kq_) ?_
  show Gl p e below _ (s₁.setTop (mkF m 3 #[.val (.int p1), .val (.int p2), .unset, .unset, .unset, .unset, .unset, .unset] [(.int (p1 &&& (1 : Int32)))]))
  by_cases hc3_1 : (p1 &&& (1 : Int32)) = (0 : Int32)
  · refine Gl.of (fun _ kq_ => XS.ifYes X0.here hx rfl (pc0 := 3) (pc' := 10) rfl (hb hby at_3) rfl ((if0 _ _).trans (teq hc3_1).1) (by decide) (by decide) kq_) ?_
    show Gl p e below _ (s₁.setTop (mkF m 10 #[.val (.int p1), .val (.int p2), .unset, .unset, .unset, .unset, .unset, .unset] []))
    refine Gl.of (fun _ kq_ => XS.iconst X0.here hx rfl (hb hby at_10) kq_) ?_
    show Gl p e below _ (s₁.setTop (mkF m 11 #[.val (.int p1), .val (.int p2), .unset, .unset, .unset, .unset, .unset, .unset] [(.int (0 : Int32))]))
    refine Gl.of (fun _ kq_ => XS.istoreN X0.here hx rfl (hb hby at_11) rfl (l' := #[.val (.int p1), .val (.int p2), .val (.int (0 : Int32)), .unset, .unset, .unset, .unset, .unset]) rfl kq_) ?_
    show Gl p e below _ (s₁.setTop (mkF m 12 #[.val (.int p1), .val (.int p2), .val (.int (0 : Int32)), .unset, .unset, .unset, .unset, .unset] []))
    refine Gl.of (fun _ kq_ => XS.iloadN X0.here hx rfl (hb hby at_12) rfl kq_) ?_
    show Gl p e below _ (s₁.setTop (mkF m 13 #[.val (.int p1), .val (.int p2), .val (.int (0 : Int32)), .unset, .unset, .unset, .unset, .unset] [(.int (0 : Int32))]))
    refine Gl.of (fun _ kq_ => XS.ifYes X0.here hx rfl (pc0 := 13) (pc' := 22) rfl (hb hby at_13) rfl ((if0 _ _).trans (teq (by decide : (0 : Int32) = (0 : Int32))).1) (by decide) (by decide) kq_) ?_
    show Gl p e below _ (s₁.setTop (mkF m 22 #[.val (.int p1), .val (.int p2), .val (.int (0 : Int32)), .unset, .unset, .unset, .unset, .unset] []))
    obtain ⟨T2, X2, e2, st2⟩ := getS2 X0 hx hZ hown (host := "") (Or.inl (w0 hw)) Via.refl e0 (Sd0.ext O0.2) (g := (mkF m 22 #[.val (.int p1), .val (.int p2), .val (.int (0 : Int32)), .unset, .unset, .unset, .unset, .unset] [])) rfl (hb hby at_22)
    refine Gl.of st2 ?_
    show Gl p e below _ (T2.setTop (mkF m 25 #[.val (.int p1), .val (.int p2), .val (.int (0 : Int32)), .unset, .unset, .unset, .unset, .unset] [(.ref d0)]))
    refine Gl.of (fun _ kq_ => XS.astoreN X2.here hx rfl (hb hby at_25) rfl rfl (l' := #[.val (.int p1), .val (.int p2), .val (.int (0 : Int32)), .val (.ref d0), .unset, .unset, .unset, .unset]) rfl kq_) ?_
    show Gl p e below _ (T2.setTop (mkF m 26 #[.val (.int p1), .val (.int p2), .val (.int (0 : Int32)), .val (.ref d0), .unset, .unset, .unset, .unset] []))
    refine Gl.of (fun _ kq_ => XS.iloadN X2.here hx rfl (hb hby at_26) rfl kq_) ?_
    show Gl p e below _ (T2.setTop (mkF m 27 #[.val (.int p1), .val (.int p2), .val (.int (0 : Int32)), .val (.ref d0), .unset, .unset, .unset, .unset] [(.int p2)]))
    refine Gl.of (fun _ kq_ => X2.ldcInt hx hown (mvT hZ (w3 hw)) (g := (mkF m 27 #[.val (.int p1), .val (.int p2), .val (.int (0 : Int32)), .val (.ref d0), .unset, .unset, .unset, .unset] [(.int p2)])) rfl (hb hby at_27) _ kq_) ?_
    show Gl p e below _ (T2.setTop (mkF m 29 #[.val (.int p1), .val (.int p2), .val (.int (0 : Int32)), .val (.ref d0), .unset, .unset, .unset, .unset] [(.int (2147483647 : Int32)), (.int p2)]))
    refine Gl.of (fun _ kq_ => XS.iand X2.here hx rfl (hb hby at_29) rfl kq_) ?_
    show Gl p e below _ (T2.setTop (mkF m 30 #[.val (.int p1), .val (.int p2), .val (.int (0 : Int32)), .val (.ref d0), .unset, .unset, .unset, .unset] [(.int (p2 &&& (2147483647 : Int32)))]))
    refine Gl.of (fun _ kq_ => XS.iconst X2.here hx rfl (hb hby at_30) kq_) ?_
    show Gl p e below _ (T2.setTop (mkF m 31 #[.val (.int p1), .val (.int p2), .val (.int (0 : Int32)), .val (.ref d0), .unset, .unset, .unset, .unset] [(.int (3 : Int32)), (.int (p2 &&& (2147483647 : Int32)))]))
    refine Gl.of (fun _ kq_ => iremM X2 hx rfl (hb hby at_31) rfl (by decide) kq_) ?_
    show Gl p e below _ (T2.setTop (mkF m 32 #[.val (.int p1), .val (.int p2), .val (.int (0 : Int32)), .val (.ref d0), .unset, .unset, .unset, .unset] [(.int ((p2 &&& (2147483647 : Int32)) % (3 : Int32)))]))
    refine Gl.of (fun _ kq_ => XS.istore X2.here hx rfl (hb hby at_32) rfl (l' := #[.val (.int p1), .val (.int p2), .val (.int (0 : Int32)), .val (.ref d0), .val (.int ((p2 &&& (2147483647 : Int32)) % (3 : Int32))), .unset, .unset, .unset]) rfl kq_) ?_
    show Gl p e below _ (T2.setTop (mkF m 34 #[.val (.int p1), .val (.int p2), .val (.int (0 : Int32)), .val (.ref d0), .val (.int ((p2 &&& (2147483647 : Int32)) % (3 : Int32))), .unset, .unset, .unset] []))
    refine Gl.of (fun _ kq_ => XS.iload X2.here hx rfl (hb hby at_34) rfl kq_) ?_
    show Gl p e below _ (T2.setTop (mkF m 36 #[.val (.int p1), .val (.int p2), .val (.int (0 : Int32)), .val (.ref d0), .val (.int ((p2 &&& (2147483647 : Int32)) % (3 : Int32))), .unset, .unset, .unset] [(.int ((p2 &&& (2147483647 : Int32)) % (3 : Int32)))]))
    by_cases hc36_3 : ((p2 &&& (2147483647 : Int32)) % (3 : Int32)) = (0 : Int32)
    · refine Gl.of (fun _ kq_ => XS.ifNo X2.here hx rfl (hb hby at_36) rfl ((if0 _ _).trans (teq hc36_3).2) kq_) ?_
      show Gl p e below _ (T2.setTop (mkF m 39 #[.val (.int p1), .val (.int p2), .val (.int (0 : Int32)), .val (.ref d0), .val (.int ((p2 &&& (2147483647 : Int32)) % (3 : Int32))), .unset, .unset, .unset] []))
      obtain ⟨T4, X4, e4, st4⟩ := getS2 X2 hx hZ hown (host := "") (Or.inl (w4 hw)) Via.refl e2 (Sm0.ext O0.2) (g := (mkF m 39 #[.val (.int p1), .val (.int p2), .val (.int (0 : Int32)), .val (.ref d0), .val (.int ((p2 &&& (2147483647 : Int32)) % (3 : Int32))), .unset, .unset, .unset] [])) rfl (hb hby at_39)
      refine Gl.of st4 ?_
      show Gl p e below _ (T4.setTop (mkF m 42 #[.val (.int p1), .val (.int p2), .val (.int (0 : Int32)), .val (.ref d0), .val (.int ((p2 &&& (2147483647 : Int32)) % (3 : Int32))), .unset, .unset, .unset] [(.ref m0)]))
      refine Gl.of (fun _ kq_ => XS.astore X4.here hx rfl (hb hby at_42) rfl rfl (l' := #[.val (.int p1), .val (.int p2), .val (.int (0 : Int32)), .val (.ref d0), .val (.int ((p2 &&& (2147483647 : Int32)) % (3 : Int32))), .val (.ref m0), .unset, .unset]) rfl kq_) ?_
      show Gl p e below _ (T4.setTop (mkF m 44 #[.val (.int p1), .val (.int p2), .val (.int (0 : Int32)), .val (.ref d0), .val (.int ((p2 &&& (2147483647 : Int32)) % (3 : Int32))), .val (.ref m0), .unset, .unset] []))
      refine Gl.of (fun _ kq_ => XS.goto X4.here hx rfl (pc0 := 44) (pc' := 66) rfl (hb hby at_44) (by decide) (by decide) kq_) ?_
      show Gl p e below _ (T4.setTop (mkF m 66 #[.val (.int p1), .val (.int p2), .val (.int (0 : Int32)), .val (.ref d0), .val (.int ((p2 &&& (2147483647 : Int32)) % (3 : Int32))), .val (.ref m0), .unset, .unset] []))
      refine Gl.of (fun _ kq_ => XS.iload X4.here hx rfl (hb hby at_66) rfl kq_) ?_
      show Gl p e below _ (T4.setTop (mkF m 68 #[.val (.int p1), .val (.int p2), .val (.int (0 : Int32)), .val (.ref d0), .val (.int ((p2 &&& (2147483647 : Int32)) % (3 : Int32))), .val (.ref m0), .unset, .unset] [(.int ((p2 &&& (2147483647 : Int32)) % (3 : Int32)))]))
      refine Gl.of (fun _ kq_ => XS.iconst X4.here hx rfl (hb hby at_68) kq_) ?_
      show Gl p e below _ (T4.setTop (mkF m 69 #[.val (.int p1), .val (.int p2), .val (.int (0 : Int32)), .val (.ref d0), .val (.int ((p2 &&& (2147483647 : Int32)) % (3 : Int32))), .val (.ref m0), .unset, .unset] [(.int (1 : Int32)), (.int ((p2 &&& (2147483647 : Int32)) % (3 : Int32)))]))
      refine Gl.of (fun _ kq_ => XS.icmpYes X4.here hx rfl (pc0 := 69) (pc' := 90) rfl (hb hby at_69) rfl (feq (by rw [hc36_3]; decide : ¬ (((p2 &&& (2147483647 : Int32)) % (3 : Int32)) = (1 : Int32)))).2 (by decide) (by decide) kq_) ?_
      show Gl p e below _ (T4.setTop (mkF m 90 #[.val (.int p1), .val (.int p2), .val (.int (0 : Int32)), .val (.ref d0), .val (.int ((p2 &&& (2147483647 : Int32)) % (3 : Int32))), .val (.ref m0), .unset, .unset] []))
      obtain ⟨b5, T5, h5, k5, t5, kb5, X5, e5, E5, hS5, hk5, hZ, hown, Ea5, Ca5, Va5, Ba5, -, -, rr5, -, sf5, st5⟩ := ldcCH X4 hx hZ hown (w7 hw) (own_str hw) e4 hS0 hk0 (own_el hw) (by decide) hR0.1 (vs := (own_fu.map (fun c => c.toInt8.toInt32)).map Value.int) (z := Int32.ofNat own_fu.length) ⟨by decide, rfl⟩ (by decide) (by decide) (g := (mkF m 90 #[.val (.int p1), .val (.int p2), .val (.int (0 : Int32)), .val (.ref d0), .val (.int ((p2 &&& (2147483647 : Int32)) % (3 : Int32))), .val (.ref m0), .unset, .unset] [])) rfl (hb hby at_90) (n := 40) (by decide) (by decide) (by decide) (by decide)
      refine Gl.of st5 ?_
      have hR5 := hR0.trans rr5
      have SG5 : Strg Z h5 b5 t5 kb5 own_fu := ⟨Ea5, Va5, Ca5, Ba5, by decide, by decide⟩
      have ec6 := ed0.ext E5
      have fc7 := fd0.ext E5
      have gc8 := sg0.ext E5
      have ec9 := ed1.ext E5
      have fc10 := fd1.ext E5
      have gc11 := sg1.ext E5
      have ec12 := em0.ext E5
      have fc13 := fm0.ext E5
      have ec14 := em1.ext E5
      have fc15 := fm1.ext E5
      have ec16 := em2.ext E5
      have fc17 := fm2.ext E5
      have O5 := O0.ext E5
      show Gl p e below _ (T5.setTop (mkF m 92 #[.val (.int p1), .val (.int p2), .val (.int (0 : Int32)), .val (.ref d0), .val (.int ((p2 &&& (2147483647 : Int32)) % (3 : Int32))), .val (.ref m0), .unset, .unset] [(.ref b5)]))
      refine Gl.of (fun _ kq_ => XS.astore X5.here hx rfl (hb hby at_92) rfl rfl (l' := #[.val (.int p1), .val (.int p2), .val (.int (0 : Int32)), .val (.ref d0), .val (.int ((p2 &&& (2147483647 : Int32)) % (3 : Int32))), .val (.ref m0), .val (.ref b5), .unset]) rfl kq_) ?_
      show Gl p e below _ (T5.setTop (mkF m 94 #[.val (.int p1), .val (.int p2), .val (.int (0 : Int32)), .val (.ref d0), .val (.int ((p2 &&& (2147483647 : Int32)) % (3 : Int32))), .val (.ref m0), .val (.ref b5), .unset] []))
      refine Gl.of (fun _ kq_ => XS.aloadN X5.here hx rfl (hb hby at_94) rfl rfl kq_) ?_
      show Gl p e below _ (T5.setTop (mkF m 95 #[.val (.int p1), .val (.int p2), .val (.int (0 : Int32)), .val (.ref d0), .val (.int ((p2 &&& (2147483647 : Int32)) % (3 : Int32))), .val (.ref m0), .val (.ref b5), .unset] [(.ref d0)]))
      refine Gl.of (fun _ kq_ => XS.aload X5.here hx rfl (hb hby at_95) rfl rfl kq_) ?_
      show Gl p e below _ (T5.setTop (mkF m 97 #[.val (.int p1), .val (.int p2), .val (.int (0 : Int32)), .val (.ref d0), .val (.int ((p2 &&& (2147483647 : Int32)) % (3 : Int32))), .val (.ref m0), .val (.ref b5), .unset] [(.ref m0), (.ref d0)]))
      refine Gl.callVH X5 hx hZ hS5 hk5 (own_el hw) hR5 (y := (⟨"com/example/schenley/schenley/Database", "lockClause", "(Lcom/example/schenley/schenley/LockMode;)Ljava/lang/String;"⟩ : MethodName)) (z := (⟨"com/example/schenley/schenley/Database", "lockClause", "(Lcom/example/schenley/schenley/LockMode;)Ljava/lang/String;"⟩ : MethodName)) hown (w15 hw) (w16 hw) (notFace_of_selects (args := #[]) (mvT hZ (w18 hw))) (w18 hw) (w17 hw) (w19 hw) (w1 hw) (desc_ne (by decide)) (rm := { frames := 1, cells := 2, slots := 44, locals := 13 }) (b := d0) (argsL := [(.ref m0)]) (rest := []) ec6 (rmL0 l Z a0 hw _ d0 m0 ac clc n0 ec12 fc13 Sv Av zv hv0 hv1 hv2 O5) 0 (by decide) (by decide) (by decide) (by decide) e5 (pc := 97) (Ls := #[.val (.int p1), .val (.int p2), .val (.int (0 : Int32)), .val (.ref d0), .val (.int ((p2 &&& (2147483647 : Int32)) % (3 : Int32))), .val (.ref m0), .val (.ref b5), .unset]) (st := [(.ref m0), (.ref d0)]) (by rw [hml]; rfl) pd_1 rfl rfl (Nat.le_of_eq rfl) (hb hby at_97) ?_
      intro v18 T18 L18 X18 hS18 hZ hown hQ18 hR18
      obtain ⟨b18, t18, kb18, rfl, SG18, E18, rfl⟩ := hQ18
      have N18 := Fr.app (Fr.nil n0) (Fr.nil n0)
      have ec19 := ec6.ext E18
      have fc20 := fc7.ext E18
      have gc21 := gc8.ext E18
      have ec22 := ec9.ext E18
      have fc23 := fc10.ext E18
      have gc24 := gc11.ext E18
      have ec25 := ec12.ext E18
      have fc26 := fc13.ext E18
      have ec27 := ec14.ext E18
      have fc28 := fc15.ext E18
      have ec29 := ec16.ext E18
      have fc30 := fc17.ext E18
      have gc31 := SG5.ext E18
      have O18 := O5.ext E18
      have hk18 := Nat.le_trans hk5 E18.1
      show Gl p e below _ (T18.setTop (mkF m 100 #[.val (.int p1), .val (.int p2), .val (.int (0 : Int32)), .val (.ref d0), .val (.int ((p2 &&& (2147483647 : Int32)) % (3 : Int32))), .val (.ref m0), .val (.ref b5), .unset] [(.ref b18)]))
      refine Gl.of (fun _ kq_ => XS.astore X18.here hx rfl (hb hby at_100) rfl rfl (l' := #[.val (.int p1), .val (.int p2), .val (.int (0 : Int32)), .val (.ref d0), .val (.int ((p2 &&& (2147483647 : Int32)) % (3 : Int32))), .val (.ref m0), .val (.ref b5), .val (.ref b18)]) rfl kq_) ?_
      show Gl p e below _ (T18.setTop (mkF m 102 #[.val (.int p1), .val (.int p2), .val (.int (0 : Int32)), .val (.ref d0), .val (.int ((p2 &&& (2147483647 : Int32)) % (3 : Int32))), .val (.ref m0), .val (.ref b5), .val (.ref b18)] []))
      refine Gl.of (fun _ kq_ => XS.aload X18.here hx rfl (hb hby at_102) rfl rfl kq_) ?_
      show Gl p e below _ (T18.setTop (mkF m 104 #[.val (.int p1), .val (.int p2), .val (.int (0 : Int32)), .val (.ref d0), .val (.int ((p2 &&& (2147483647 : Int32)) % (3 : Int32))), .val (.ref m0), .val (.ref b5), .val (.ref b18)] [(.ref b5)]))
      refine Gl.of (fun _ kq_ => XS.aload X18.here hx rfl (hb hby at_104) rfl rfl kq_) ?_
      show Gl p e below _ (T18.setTop (mkF m 106 #[.val (.int p1), .val (.int p2), .val (.int (0 : Int32)), .val (.ref d0), .val (.int ((p2 &&& (2147483647 : Int32)) % (3 : Int32))), .val (.ref m0), .val (.ref b5), .val (.ref b18)] [(.ref b18), (.ref b5)]))
      refine Gl.callVB X18 hx hZ (y := (⟨"java/lang/String", "equals", "(Ljava/lang/Object;)Z"⟩ : MethodName)) (z := (⟨"java/lang/String", "equals", "(Ljava/lang/Object;)Z"⟩ : MethodName)) hown (w33 hw) (w34 hw) (notFace_of_selects (args := #[]) (mvT hZ (w36 hw))) (w36 hw) (w35 hw) (desc_ne (by decide)) (W := 0) (fun v => (v = some (.int 1) ∧ own_fu = own_fu) ∨ (v = some (.int 0) ∧ ¬ own_fu = own_fu)) (b := b5) (argsL := [(.ref b18)]) (rest := []) gc31.1 (StrChars.Road.eqW (W := 0) hZ (own_weq hw) (kI := 4) (w9 hw) gc31.1 gc31.2.1 gc31.2.2.1 gc31.2.2.2.1 gc31.cod gc31.up gc31.2.2.2.2.2 SG18.1 SG18.2.1 SG18.2.2.1 SG18.2.2.2.1 SG18.cod SG18.up SG18.2.2.2.2.2 (SC.ext O18.2) hcz (by decide) (by decide)) (by decide) (by decide) rfl (pc := 106) (Ls := #[.val (.int p1), .val (.int p2), .val (.int (0 : Int32)), .val (.ref d0), .val (.int ((p2 &&& (2147483647 : Int32)) % (3 : Int32))), .val (.ref m0), .val (.ref b5), .val (.ref b18)]) (st := [(.ref b18), (.ref b5)]) (by rw [hml]; rfl) pd_2 rfl rfl (Nat.le_of_eq rfl) (hb hby at_106) ?_
      intro v32 T32 X32 e32 hv32
      rcases hv32 with ⟨rfl, hq32⟩ | ⟨rfl, hq32⟩
      · show Gl p e below _ (T32.setTop (mkF m 109 #[.val (.int p1), .val (.int p2), .val (.int (0 : Int32)), .val (.ref d0), .val (.int ((p2 &&& (2147483647 : Int32)) % (3 : Int32))), .val (.ref m0), .val (.ref b5), .val (.ref b18)] [(.int (1 : Int32))]))
        exact Gl.retNH X32 hx hlk hret (by simp) (hb hby at_109) e32 (⟨rfl, N18⟩) hS18 (Nat.le_refl _) hZ (own_el hw) hR18 (by decide) (by decide)
      · exact absurd rfl hq32
    · refine Gl.of (fun _ kq_ => XS.ifYes X2.here hx rfl (pc0 := 36) (pc' := 47) rfl (hb hby at_36) rfl ((if0 _ _).trans (feq hc36_3).2) (by decide) (by decide) kq_) ?_
      show Gl p e below _ (T2.setTop (mkF m 47 #[.val (.int p1), .val (.int p2), .val (.int (0 : Int32)), .val (.ref d0), .val (.int ((p2 &&& (2147483647 : Int32)) % (3 : Int32))), .unset, .unset, .unset] []))
      refine Gl.of (fun _ kq_ => XS.iload X2.here hx rfl (hb hby at_47) rfl kq_) ?_
      show Gl p e below _ (T2.setTop (mkF m 49 #[.val (.int p1), .val (.int p2), .val (.int (0 : Int32)), .val (.ref d0), .val (.int ((p2 &&& (2147483647 : Int32)) % (3 : Int32))), .unset, .unset, .unset] [(.int ((p2 &&& (2147483647 : Int32)) % (3 : Int32)))]))
      refine Gl.of (fun _ kq_ => XS.iconst X2.here hx rfl (hb hby at_49) kq_) ?_
      show Gl p e below _ (T2.setTop (mkF m 50 #[.val (.int p1), .val (.int p2), .val (.int (0 : Int32)), .val (.ref d0), .val (.int ((p2 &&& (2147483647 : Int32)) % (3 : Int32))), .unset, .unset, .unset] [(.int (1 : Int32)), (.int ((p2 &&& (2147483647 : Int32)) % (3 : Int32)))]))
      by_cases hc50_33 : ((p2 &&& (2147483647 : Int32)) % (3 : Int32)) = (1 : Int32)
      · refine Gl.of (fun _ kq_ => XS.icmpNo X2.here hx rfl (hb hby at_50) rfl (teq hc50_33).2 kq_) ?_
        show Gl p e below _ (T2.setTop (mkF m 53 #[.val (.int p1), .val (.int p2), .val (.int (0 : Int32)), .val (.ref d0), .val (.int ((p2 &&& (2147483647 : Int32)) % (3 : Int32))), .unset, .unset, .unset] []))
        obtain ⟨T34, X34, e34, st34⟩ := getS2 X2 hx hZ hown (host := "") (Or.inl (w38 hw)) Via.refl e2 (Sm1.ext O0.2) (g := (mkF m 53 #[.val (.int p1), .val (.int p2), .val (.int (0 : Int32)), .val (.ref d0), .val (.int ((p2 &&& (2147483647 : Int32)) % (3 : Int32))), .unset, .unset, .unset] [])) rfl (hb hby at_53)
        refine Gl.of st34 ?_
        show Gl p e below _ (T34.setTop (mkF m 56 #[.val (.int p1), .val (.int p2), .val (.int (0 : Int32)), .val (.ref d0), .val (.int ((p2 &&& (2147483647 : Int32)) % (3 : Int32))), .unset, .unset, .unset] [(.ref m1)]))
        refine Gl.of (fun _ kq_ => XS.astore X34.here hx rfl (hb hby at_56) rfl rfl (l' := #[.val (.int p1), .val (.int p2), .val (.int (0 : Int32)), .val (.ref d0), .val (.int ((p2 &&& (2147483647 : Int32)) % (3 : Int32))), .val (.ref m1), .unset, .unset]) rfl kq_) ?_
        show Gl p e below _ (T34.setTop (mkF m 58 #[.val (.int p1), .val (.int p2), .val (.int (0 : Int32)), .val (.ref d0), .val (.int ((p2 &&& (2147483647 : Int32)) % (3 : Int32))), .val (.ref m1), .unset, .unset] []))
        refine Gl.of (fun _ kq_ => XS.goto X34.here hx rfl (pc0 := 58) (pc' := 66) rfl (hb hby at_58) (by decide) (by decide) kq_) ?_
        show Gl p e below _ (T34.setTop (mkF m 66 #[.val (.int p1), .val (.int p2), .val (.int (0 : Int32)), .val (.ref d0), .val (.int ((p2 &&& (2147483647 : Int32)) % (3 : Int32))), .val (.ref m1), .unset, .unset] []))
        refine Gl.of (fun _ kq_ => XS.iload X34.here hx rfl (hb hby at_66) rfl kq_) ?_
        show Gl p e below _ (T34.setTop (mkF m 68 #[.val (.int p1), .val (.int p2), .val (.int (0 : Int32)), .val (.ref d0), .val (.int ((p2 &&& (2147483647 : Int32)) % (3 : Int32))), .val (.ref m1), .unset, .unset] [(.int ((p2 &&& (2147483647 : Int32)) % (3 : Int32)))]))
        refine Gl.of (fun _ kq_ => XS.iconst X34.here hx rfl (hb hby at_68) kq_) ?_
        show Gl p e below _ (T34.setTop (mkF m 69 #[.val (.int p1), .val (.int p2), .val (.int (0 : Int32)), .val (.ref d0), .val (.int ((p2 &&& (2147483647 : Int32)) % (3 : Int32))), .val (.ref m1), .unset, .unset] [(.int (1 : Int32)), (.int ((p2 &&& (2147483647 : Int32)) % (3 : Int32)))]))
        refine Gl.of (fun _ kq_ => XS.icmpNo X34.here hx rfl (hb hby at_69) rfl (teq hc50_33).2 kq_) ?_
        show Gl p e below _ (T34.setTop (mkF m 72 #[.val (.int p1), .val (.int p2), .val (.int (0 : Int32)), .val (.ref d0), .val (.int ((p2 &&& (2147483647 : Int32)) % (3 : Int32))), .val (.ref m1), .unset, .unset] []))
        refine Gl.of (fun _ kq_ => XS.iloadN X34.here hx rfl (hb hby at_72) rfl kq_) ?_
        show Gl p e below _ (T34.setTop (mkF m 73 #[.val (.int p1), .val (.int p2), .val (.int (0 : Int32)), .val (.ref d0), .val (.int ((p2 &&& (2147483647 : Int32)) % (3 : Int32))), .val (.ref m1), .unset, .unset] [(.int (0 : Int32))]))
        refine Gl.of (fun _ kq_ => XS.ifYes X34.here hx rfl (pc0 := 73) (pc' := 83) rfl (hb hby at_73) rfl ((if0 _ _).trans (teq (by decide : (0 : Int32) = (0 : Int32))).1) (by decide) (by decide) kq_) ?_
        show Gl p e below _ (T34.setTop (mkF m 83 #[.val (.int p1), .val (.int p2), .val (.int (0 : Int32)), .val (.ref d0), .val (.int ((p2 &&& (2147483647 : Int32)) % (3 : Int32))), .val (.ref m1), .unset, .unset] []))
        obtain ⟨b35, T35, h35, k35, t35, kb35, X35, e35, E35, hS35, hk35, hZ, hown, Ea35, Ca35, Va35, Ba35, -, -, rr35, -, sf35, st35⟩ := ldcCH X34 hx hZ hown (w40 hw) (own_str hw) e34 hS0 hk0 (own_el hw) (by decide) hR0.1 (vs := (own_fs.map (fun c => c.toInt8.toInt32)).map Value.int) (z := Int32.ofNat own_fs.length) ⟨by decide, rfl⟩ (by decide) (by decide) (g := (mkF m 83 #[.val (.int p1), .val (.int p2), .val (.int (0 : Int32)), .val (.ref d0), .val (.int ((p2 &&& (2147483647 : Int32)) % (3 : Int32))), .val (.ref m1), .unset, .unset] [])) rfl (hb hby at_83) (n := 36) (by decide) (by decide) (by decide) (by decide)
        refine Gl.of st35 ?_
        have hR35 := hR0.trans rr35
        have SG35 : Strg Z h35 b35 t35 kb35 own_fs := ⟨Ea35, Va35, Ca35, Ba35, by decide, by decide⟩
        have ec36 := ed0.ext E35
        have fc37 := fd0.ext E35
        have gc38 := sg0.ext E35
        have ec39 := ed1.ext E35
        have fc40 := fd1.ext E35
        have gc41 := sg1.ext E35
        have ec42 := em0.ext E35
        have fc43 := fm0.ext E35
        have ec44 := em1.ext E35
        have fc45 := fm1.ext E35
        have ec46 := em2.ext E35
        have fc47 := fm2.ext E35
        have O35 := O0.ext E35
        show Gl p e below _ (T35.setTop (mkF m 85 #[.val (.int p1), .val (.int p2), .val (.int (0 : Int32)), .val (.ref d0), .val (.int ((p2 &&& (2147483647 : Int32)) % (3 : Int32))), .val (.ref m1), .unset, .unset] [(.ref b35)]))
        refine Gl.of (fun _ kq_ => XS.astore X35.here hx rfl (hb hby at_85) rfl rfl (l' := #[.val (.int p1), .val (.int p2), .val (.int (0 : Int32)), .val (.ref d0), .val (.int ((p2 &&& (2147483647 : Int32)) % (3 : Int32))), .val (.ref m1), .val (.ref b35), .unset]) rfl kq_) ?_
        show Gl p e below _ (T35.setTop (mkF m 87 #[.val (.int p1), .val (.int p2), .val (.int (0 : Int32)), .val (.ref d0), .val (.int ((p2 &&& (2147483647 : Int32)) % (3 : Int32))), .val (.ref m1), .val (.ref b35), .unset] []))
        refine Gl.of (fun _ kq_ => XS.goto X35.here hx rfl (pc0 := 87) (pc' := 94) rfl (hb hby at_87) (by decide) (by decide) kq_) ?_
        show Gl p e below _ (T35.setTop (mkF m 94 #[.val (.int p1), .val (.int p2), .val (.int (0 : Int32)), .val (.ref d0), .val (.int ((p2 &&& (2147483647 : Int32)) % (3 : Int32))), .val (.ref m1), .val (.ref b35), .unset] []))
        refine Gl.of (fun _ kq_ => XS.aloadN X35.here hx rfl (hb hby at_94) rfl rfl kq_) ?_
        show Gl p e below _ (T35.setTop (mkF m 95 #[.val (.int p1), .val (.int p2), .val (.int (0 : Int32)), .val (.ref d0), .val (.int ((p2 &&& (2147483647 : Int32)) % (3 : Int32))), .val (.ref m1), .val (.ref b35), .unset] [(.ref d0)]))
        refine Gl.of (fun _ kq_ => XS.aload X35.here hx rfl (hb hby at_95) rfl rfl kq_) ?_
        show Gl p e below _ (T35.setTop (mkF m 97 #[.val (.int p1), .val (.int p2), .val (.int (0 : Int32)), .val (.ref d0), .val (.int ((p2 &&& (2147483647 : Int32)) % (3 : Int32))), .val (.ref m1), .val (.ref b35), .unset] [(.ref m1), (.ref d0)]))
        refine Gl.callV0 X35 hx hZ (y := (⟨"com/example/schenley/schenley/Database", "lockClause", "(Lcom/example/schenley/schenley/LockMode;)Ljava/lang/String;"⟩ : MethodName)) (z := (⟨"com/example/schenley/schenley/Database", "lockClause", "(Lcom/example/schenley/schenley/LockMode;)Ljava/lang/String;"⟩ : MethodName)) hown (w15 hw) (w16 hw) (notFace_of_selects (args := #[]) (mvT hZ (w18 hw))) (w18 hw) (w17 hw) (w19 hw) (w1 hw) (desc_ne (by decide)) (b := d0) (argsL := [(.ref m1)]) (rest := []) ec36 (rmL1 l Z a0 hw _ d0 m1 x0 ac clc n0 fc37 ec44 fc45 Sv Av zv hv0 hv1 hv2 O35) 0 (by decide) (by decide) e35 (pc := 97) (Ls := #[.val (.int p1), .val (.int p2), .val (.int (0 : Int32)), .val (.ref d0), .val (.int ((p2 &&& (2147483647 : Int32)) % (3 : Int32))), .val (.ref m1), .val (.ref b35), .unset]) (st := [(.ref m1), (.ref d0)]) (by rw [hml]; rfl) pd_1 rfl rfl (Nat.le_of_eq rfl) (hb hby at_97) (by decide) (by decide) ?_
        intro v48 T48 X48 e48 hv48
        subst hv48
        show Gl p e below _ (T48.setTop (mkF m 100 #[.val (.int p1), .val (.int p2), .val (.int (0 : Int32)), .val (.ref d0), .val (.int ((p2 &&& (2147483647 : Int32)) % (3 : Int32))), .val (.ref m1), .val (.ref b35), .unset] [(.ref x0)]))
        refine Gl.of (fun _ kq_ => XS.astore X48.here hx rfl (hb hby at_100) rfl rfl (l' := #[.val (.int p1), .val (.int p2), .val (.int (0 : Int32)), .val (.ref d0), .val (.int ((p2 &&& (2147483647 : Int32)) % (3 : Int32))), .val (.ref m1), .val (.ref b35), .val (.ref x0)]) rfl kq_) ?_
        show Gl p e below _ (T48.setTop (mkF m 102 #[.val (.int p1), .val (.int p2), .val (.int (0 : Int32)), .val (.ref d0), .val (.int ((p2 &&& (2147483647 : Int32)) % (3 : Int32))), .val (.ref m1), .val (.ref b35), .val (.ref x0)] []))
        refine Gl.of (fun _ kq_ => XS.aload X48.here hx rfl (hb hby at_102) rfl rfl kq_) ?_
        show Gl p e below _ (T48.setTop (mkF m 104 #[.val (.int p1), .val (.int p2), .val (.int (0 : Int32)), .val (.ref d0), .val (.int ((p2 &&& (2147483647 : Int32)) % (3 : Int32))), .val (.ref m1), .val (.ref b35), .val (.ref x0)] [(.ref b35)]))
        refine Gl.of (fun _ kq_ => XS.aload X48.here hx rfl (hb hby at_104) rfl rfl kq_) ?_
        show Gl p e below _ (T48.setTop (mkF m 106 #[.val (.int p1), .val (.int p2), .val (.int (0 : Int32)), .val (.ref d0), .val (.int ((p2 &&& (2147483647 : Int32)) % (3 : Int32))), .val (.ref m1), .val (.ref b35), .val (.ref x0)] [(.ref x0), (.ref b35)]))
        refine Gl.callVB X48 hx hZ (y := (⟨"java/lang/String", "equals", "(Ljava/lang/Object;)Z"⟩ : MethodName)) (z := (⟨"java/lang/String", "equals", "(Ljava/lang/Object;)Z"⟩ : MethodName)) hown (w33 hw) (w34 hw) (notFace_of_selects (args := #[]) (mvT hZ (w36 hw))) (w36 hw) (w35 hw) (desc_ne (by decide)) (W := 0) (fun v => (v = some (.int 1) ∧ own_fs = own_fs) ∨ (v = some (.int 0) ∧ ¬ own_fs = own_fs)) (b := b35) (argsL := [(.ref x0)]) (rest := []) SG35.1 (StrChars.Road.eqW (W := 0) hZ (own_weq hw) (kI := 4) (w9 hw) SG35.1 SG35.2.1 SG35.2.2.1 SG35.2.2.2.1 SG35.cod SG35.up SG35.2.2.2.2.2 gc38.1 gc38.2.1 gc38.2.2.1 gc38.2.2.2.1 gc38.cod gc38.up gc38.2.2.2.2.2 (SC.ext O35.2) hcz (by decide) (by decide)) (by decide) (by decide) e48 (pc := 106) (Ls := #[.val (.int p1), .val (.int p2), .val (.int (0 : Int32)), .val (.ref d0), .val (.int ((p2 &&& (2147483647 : Int32)) % (3 : Int32))), .val (.ref m1), .val (.ref b35), .val (.ref x0)]) (st := [(.ref x0), (.ref b35)]) (by rw [hml]; rfl) pd_2 rfl rfl (Nat.le_of_eq rfl) (hb hby at_106) ?_
        intro v49 T49 X49 e49 hv49
        rcases hv49 with ⟨rfl, hq49⟩ | ⟨rfl, hq49⟩
        · show Gl p e below _ (T49.setTop (mkF m 109 #[.val (.int p1), .val (.int p2), .val (.int (0 : Int32)), .val (.ref d0), .val (.int ((p2 &&& (2147483647 : Int32)) % (3 : Int32))), .val (.ref m1), .val (.ref b35), .val (.ref x0)] [(.int (1 : Int32))]))
          exact Gl.retNH X49 hx hlk hret (by simp) (hb hby at_109) e49 (⟨rfl, (Fr.nil n0)⟩) hS35 hk35 hZ (own_el hw) hR35 (by decide) (by decide)
        · exact absurd rfl hq49
      · refine Gl.of (fun _ kq_ => XS.icmpYes X2.here hx rfl (pc0 := 50) (pc' := 61) rfl (hb hby at_50) rfl (feq hc50_33).2 (by decide) (by decide) kq_) ?_
        show Gl p e below _ (T2.setTop (mkF m 61 #[.val (.int p1), .val (.int p2), .val (.int (0 : Int32)), .val (.ref d0), .val (.int ((p2 &&& (2147483647 : Int32)) % (3 : Int32))), .unset, .unset, .unset] []))
        obtain ⟨T50, X50, e50, st50⟩ := getS2 X2 hx hZ hown (host := "") (Or.inl (w52 hw)) Via.refl e2 (Sm2.ext O0.2) (g := (mkF m 61 #[.val (.int p1), .val (.int p2), .val (.int (0 : Int32)), .val (.ref d0), .val (.int ((p2 &&& (2147483647 : Int32)) % (3 : Int32))), .unset, .unset, .unset] [])) rfl (hb hby at_61)
        refine Gl.of st50 ?_
        show Gl p e below _ (T50.setTop (mkF m 64 #[.val (.int p1), .val (.int p2), .val (.int (0 : Int32)), .val (.ref d0), .val (.int ((p2 &&& (2147483647 : Int32)) % (3 : Int32))), .unset, .unset, .unset] [(.ref m2)]))
        refine Gl.of (fun _ kq_ => XS.astore X50.here hx rfl (hb hby at_64) rfl rfl (l' := #[.val (.int p1), .val (.int p2), .val (.int (0 : Int32)), .val (.ref d0), .val (.int ((p2 &&& (2147483647 : Int32)) % (3 : Int32))), .val (.ref m2), .unset, .unset]) rfl kq_) ?_
        show Gl p e below _ (T50.setTop (mkF m 66 #[.val (.int p1), .val (.int p2), .val (.int (0 : Int32)), .val (.ref d0), .val (.int ((p2 &&& (2147483647 : Int32)) % (3 : Int32))), .val (.ref m2), .unset, .unset] []))
        refine Gl.of (fun _ kq_ => XS.iload X50.here hx rfl (hb hby at_66) rfl kq_) ?_
        show Gl p e below _ (T50.setTop (mkF m 68 #[.val (.int p1), .val (.int p2), .val (.int (0 : Int32)), .val (.ref d0), .val (.int ((p2 &&& (2147483647 : Int32)) % (3 : Int32))), .val (.ref m2), .unset, .unset] [(.int ((p2 &&& (2147483647 : Int32)) % (3 : Int32)))]))
        refine Gl.of (fun _ kq_ => XS.iconst X50.here hx rfl (hb hby at_68) kq_) ?_
        show Gl p e below _ (T50.setTop (mkF m 69 #[.val (.int p1), .val (.int p2), .val (.int (0 : Int32)), .val (.ref d0), .val (.int ((p2 &&& (2147483647 : Int32)) % (3 : Int32))), .val (.ref m2), .unset, .unset] [(.int (1 : Int32)), (.int ((p2 &&& (2147483647 : Int32)) % (3 : Int32)))]))
        refine Gl.of (fun _ kq_ => XS.icmpYes X50.here hx rfl (pc0 := 69) (pc' := 90) rfl (hb hby at_69) rfl (feq hc50_33).2 (by decide) (by decide) kq_) ?_
        show Gl p e below _ (T50.setTop (mkF m 90 #[.val (.int p1), .val (.int p2), .val (.int (0 : Int32)), .val (.ref d0), .val (.int ((p2 &&& (2147483647 : Int32)) % (3 : Int32))), .val (.ref m2), .unset, .unset] []))
        obtain ⟨b51, T51, h51, k51, t51, kb51, X51, e51, E51, hS51, hk51, hZ, hown, Ea51, Ca51, Va51, Ba51, -, -, rr51, -, sf51, st51⟩ := ldcCH X50 hx hZ hown (w7 hw) (own_str hw) e50 hS0 hk0 (own_el hw) (by decide) hR0.1 (vs := (own_fu.map (fun c => c.toInt8.toInt32)).map Value.int) (z := Int32.ofNat own_fu.length) ⟨by decide, rfl⟩ (by decide) (by decide) (g := (mkF m 90 #[.val (.int p1), .val (.int p2), .val (.int (0 : Int32)), .val (.ref d0), .val (.int ((p2 &&& (2147483647 : Int32)) % (3 : Int32))), .val (.ref m2), .unset, .unset] [])) rfl (hb hby at_90) (n := 40) (by decide) (by decide) (by decide) (by decide)
        refine Gl.of st51 ?_
        have hR51 := hR0.trans rr51
        have SG51 : Strg Z h51 b51 t51 kb51 own_fu := ⟨Ea51, Va51, Ca51, Ba51, by decide, by decide⟩
        have ec52 := ed0.ext E51
        have fc53 := fd0.ext E51
        have gc54 := sg0.ext E51
        have ec55 := ed1.ext E51
        have fc56 := fd1.ext E51
        have gc57 := sg1.ext E51
        have ec58 := em0.ext E51
        have fc59 := fm0.ext E51
        have ec60 := em1.ext E51
        have fc61 := fm1.ext E51
        have ec62 := em2.ext E51
        have fc63 := fm2.ext E51
        have O51 := O0.ext E51
        show Gl p e below _ (T51.setTop (mkF m 92 #[.val (.int p1), .val (.int p2), .val (.int (0 : Int32)), .val (.ref d0), .val (.int ((p2 &&& (2147483647 : Int32)) % (3 : Int32))), .val (.ref m2), .unset, .unset] [(.ref b51)]))
        refine Gl.of (fun _ kq_ => XS.astore X51.here hx rfl (hb hby at_92) rfl rfl (l' := #[.val (.int p1), .val (.int p2), .val (.int (0 : Int32)), .val (.ref d0), .val (.int ((p2 &&& (2147483647 : Int32)) % (3 : Int32))), .val (.ref m2), .val (.ref b51), .unset]) rfl kq_) ?_
        show Gl p e below _ (T51.setTop (mkF m 94 #[.val (.int p1), .val (.int p2), .val (.int (0 : Int32)), .val (.ref d0), .val (.int ((p2 &&& (2147483647 : Int32)) % (3 : Int32))), .val (.ref m2), .val (.ref b51), .unset] []))
        refine Gl.of (fun _ kq_ => XS.aloadN X51.here hx rfl (hb hby at_94) rfl rfl kq_) ?_
        show Gl p e below _ (T51.setTop (mkF m 95 #[.val (.int p1), .val (.int p2), .val (.int (0 : Int32)), .val (.ref d0), .val (.int ((p2 &&& (2147483647 : Int32)) % (3 : Int32))), .val (.ref m2), .val (.ref b51), .unset] [(.ref d0)]))
        refine Gl.of (fun _ kq_ => XS.aload X51.here hx rfl (hb hby at_95) rfl rfl kq_) ?_
        show Gl p e below _ (T51.setTop (mkF m 97 #[.val (.int p1), .val (.int p2), .val (.int (0 : Int32)), .val (.ref d0), .val (.int ((p2 &&& (2147483647 : Int32)) % (3 : Int32))), .val (.ref m2), .val (.ref b51), .unset] [(.ref m2), (.ref d0)]))
        refine Gl.callVH X51 hx hZ hS51 hk51 (own_el hw) hR51 (y := (⟨"com/example/schenley/schenley/Database", "lockClause", "(Lcom/example/schenley/schenley/LockMode;)Ljava/lang/String;"⟩ : MethodName)) (z := (⟨"com/example/schenley/schenley/Database", "lockClause", "(Lcom/example/schenley/schenley/LockMode;)Ljava/lang/String;"⟩ : MethodName)) hown (w15 hw) (w16 hw) (notFace_of_selects (args := #[]) (mvT hZ (w18 hw))) (w18 hw) (w17 hw) (w19 hw) (w1 hw) (desc_ne (by decide)) (rm := { frames := 1, cells := 2, slots := 44, locals := 13 }) (b := d0) (argsL := [(.ref m2)]) (rest := []) ec52 (rmL2 l Z a0 hw _ d0 m2 ac clc n0 ec62 fc63 Sv Av zv hv0 hv1 hv2 O51) 0 (by decide) (by decide) (by decide) (by decide) e51 (pc := 97) (Ls := #[.val (.int p1), .val (.int p2), .val (.int (0 : Int32)), .val (.ref d0), .val (.int ((p2 &&& (2147483647 : Int32)) % (3 : Int32))), .val (.ref m2), .val (.ref b51), .unset]) (st := [(.ref m2), (.ref d0)]) (by rw [hml]; rfl) pd_1 rfl rfl (Nat.le_of_eq rfl) (hb hby at_97) ?_
        intro v64 T64 L64 X64 hS64 hZ hown hQ64 hR64
        obtain ⟨b64, t64, kb64, rfl, SG64, E64, rfl⟩ := hQ64
        have N64 := Fr.app (Fr.nil n0) (Fr.nil n0)
        have ec65 := ec52.ext E64
        have fc66 := fc53.ext E64
        have gc67 := gc54.ext E64
        have ec68 := ec55.ext E64
        have fc69 := fc56.ext E64
        have gc70 := gc57.ext E64
        have ec71 := ec58.ext E64
        have fc72 := fc59.ext E64
        have ec73 := ec60.ext E64
        have fc74 := fc61.ext E64
        have ec75 := ec62.ext E64
        have fc76 := fc63.ext E64
        have gc77 := SG51.ext E64
        have O64 := O51.ext E64
        have hk64 := Nat.le_trans hk51 E64.1
        show Gl p e below _ (T64.setTop (mkF m 100 #[.val (.int p1), .val (.int p2), .val (.int (0 : Int32)), .val (.ref d0), .val (.int ((p2 &&& (2147483647 : Int32)) % (3 : Int32))), .val (.ref m2), .val (.ref b51), .unset] [(.ref b64)]))
        refine Gl.of (fun _ kq_ => XS.astore X64.here hx rfl (hb hby at_100) rfl rfl (l' := #[.val (.int p1), .val (.int p2), .val (.int (0 : Int32)), .val (.ref d0), .val (.int ((p2 &&& (2147483647 : Int32)) % (3 : Int32))), .val (.ref m2), .val (.ref b51), .val (.ref b64)]) rfl kq_) ?_
        show Gl p e below _ (T64.setTop (mkF m 102 #[.val (.int p1), .val (.int p2), .val (.int (0 : Int32)), .val (.ref d0), .val (.int ((p2 &&& (2147483647 : Int32)) % (3 : Int32))), .val (.ref m2), .val (.ref b51), .val (.ref b64)] []))
        refine Gl.of (fun _ kq_ => XS.aload X64.here hx rfl (hb hby at_102) rfl rfl kq_) ?_
        show Gl p e below _ (T64.setTop (mkF m 104 #[.val (.int p1), .val (.int p2), .val (.int (0 : Int32)), .val (.ref d0), .val (.int ((p2 &&& (2147483647 : Int32)) % (3 : Int32))), .val (.ref m2), .val (.ref b51), .val (.ref b64)] [(.ref b51)]))
        refine Gl.of (fun _ kq_ => XS.aload X64.here hx rfl (hb hby at_104) rfl rfl kq_) ?_
        show Gl p e below _ (T64.setTop (mkF m 106 #[.val (.int p1), .val (.int p2), .val (.int (0 : Int32)), .val (.ref d0), .val (.int ((p2 &&& (2147483647 : Int32)) % (3 : Int32))), .val (.ref m2), .val (.ref b51), .val (.ref b64)] [(.ref b64), (.ref b51)]))
        refine Gl.callVB X64 hx hZ (y := (⟨"java/lang/String", "equals", "(Ljava/lang/Object;)Z"⟩ : MethodName)) (z := (⟨"java/lang/String", "equals", "(Ljava/lang/Object;)Z"⟩ : MethodName)) hown (w33 hw) (w34 hw) (notFace_of_selects (args := #[]) (mvT hZ (w36 hw))) (w36 hw) (w35 hw) (desc_ne (by decide)) (W := 0) (fun v => (v = some (.int 1) ∧ own_fu = own_fu) ∨ (v = some (.int 0) ∧ ¬ own_fu = own_fu)) (b := b51) (argsL := [(.ref b64)]) (rest := []) gc77.1 (StrChars.Road.eqW (W := 0) hZ (own_weq hw) (kI := 4) (w9 hw) gc77.1 gc77.2.1 gc77.2.2.1 gc77.2.2.2.1 gc77.cod gc77.up gc77.2.2.2.2.2 SG64.1 SG64.2.1 SG64.2.2.1 SG64.2.2.2.1 SG64.cod SG64.up SG64.2.2.2.2.2 (SC.ext O64.2) hcz (by decide) (by decide)) (by decide) (by decide) rfl (pc := 106) (Ls := #[.val (.int p1), .val (.int p2), .val (.int (0 : Int32)), .val (.ref d0), .val (.int ((p2 &&& (2147483647 : Int32)) % (3 : Int32))), .val (.ref m2), .val (.ref b51), .val (.ref b64)]) (st := [(.ref b64), (.ref b51)]) (by rw [hml]; rfl) pd_2 rfl rfl (Nat.le_of_eq rfl) (hb hby at_106) ?_
        intro v78 T78 X78 e78 hv78
        rcases hv78 with ⟨rfl, hq78⟩ | ⟨rfl, hq78⟩
        · show Gl p e below _ (T78.setTop (mkF m 109 #[.val (.int p1), .val (.int p2), .val (.int (0 : Int32)), .val (.ref d0), .val (.int ((p2 &&& (2147483647 : Int32)) % (3 : Int32))), .val (.ref m2), .val (.ref b51), .val (.ref b64)] [(.int (1 : Int32))]))
          exact Gl.retNH X78 hx hlk hret (by simp) (hb hby at_109) e78 (⟨rfl, N64⟩) hS64 (Nat.le_refl _) hZ (own_el hw) hR64 (by decide) (by decide)
        · exact absurd rfl hq78
  · refine Gl.of (fun _ kq_ => XS.ifNo X0.here hx rfl (hb hby at_3) rfl ((if0 _ _).trans (feq hc3_1).1) kq_) ?_
    show Gl p e below _ (s₁.setTop (mkF m 6 #[.val (.int p1), .val (.int p2), .unset, .unset, .unset, .unset, .unset, .unset] []))
    refine Gl.of (fun _ kq_ => XS.iconst X0.here hx rfl (hb hby at_6) kq_) ?_
    show Gl p e below _ (s₁.setTop (mkF m 7 #[.val (.int p1), .val (.int p2), .unset, .unset, .unset, .unset, .unset, .unset] [(.int (1 : Int32))]))
    refine Gl.of (fun _ kq_ => XS.goto X0.here hx rfl (pc0 := 7) (pc' := 11) rfl (hb hby at_7) (by decide) (by decide) kq_) ?_
    show Gl p e below _ (s₁.setTop (mkF m 11 #[.val (.int p1), .val (.int p2), .unset, .unset, .unset, .unset, .unset, .unset] [(.int (1 : Int32))]))
    refine Gl.of (fun _ kq_ => XS.istoreN X0.here hx rfl (hb hby at_11) rfl (l' := #[.val (.int p1), .val (.int p2), .val (.int (1 : Int32)), .unset, .unset, .unset, .unset, .unset]) rfl kq_) ?_
    show Gl p e below _ (s₁.setTop (mkF m 12 #[.val (.int p1), .val (.int p2), .val (.int (1 : Int32)), .unset, .unset, .unset, .unset, .unset] []))
    refine Gl.of (fun _ kq_ => XS.iloadN X0.here hx rfl (hb hby at_12) rfl kq_) ?_
    show Gl p e below _ (s₁.setTop (mkF m 13 #[.val (.int p1), .val (.int p2), .val (.int (1 : Int32)), .unset, .unset, .unset, .unset, .unset] [(.int (1 : Int32))]))
    refine Gl.of (fun _ kq_ => XS.ifNo X0.here hx rfl (hb hby at_13) rfl ((if0 _ _).trans (feq (by decide : ¬ ((1 : Int32) = (0 : Int32)))).1) kq_) ?_
    show Gl p e below _ (s₁.setTop (mkF m 16 #[.val (.int p1), .val (.int p2), .val (.int (1 : Int32)), .unset, .unset, .unset, .unset, .unset] []))
    obtain ⟨T79, X79, e79, st79⟩ := getS2 X0 hx hZ hown (host := "") (Or.inl (w54 hw)) Via.refl e0 (Sd1.ext O0.2) (g := (mkF m 16 #[.val (.int p1), .val (.int p2), .val (.int (1 : Int32)), .unset, .unset, .unset, .unset, .unset] [])) rfl (hb hby at_16)
    refine Gl.of st79 ?_
    show Gl p e below _ (T79.setTop (mkF m 19 #[.val (.int p1), .val (.int p2), .val (.int (1 : Int32)), .unset, .unset, .unset, .unset, .unset] [(.ref d1)]))
    refine Gl.of (fun _ kq_ => XS.goto X79.here hx rfl (pc0 := 19) (pc' := 25) rfl (hb hby at_19) (by decide) (by decide) kq_) ?_
    show Gl p e below _ (T79.setTop (mkF m 25 #[.val (.int p1), .val (.int p2), .val (.int (1 : Int32)), .unset, .unset, .unset, .unset, .unset] [(.ref d1)]))
    refine Gl.of (fun _ kq_ => XS.astoreN X79.here hx rfl (hb hby at_25) rfl rfl (l' := #[.val (.int p1), .val (.int p2), .val (.int (1 : Int32)), .val (.ref d1), .unset, .unset, .unset, .unset]) rfl kq_) ?_
    show Gl p e below _ (T79.setTop (mkF m 26 #[.val (.int p1), .val (.int p2), .val (.int (1 : Int32)), .val (.ref d1), .unset, .unset, .unset, .unset] []))
    refine Gl.of (fun _ kq_ => XS.iloadN X79.here hx rfl (hb hby at_26) rfl kq_) ?_
    show Gl p e below _ (T79.setTop (mkF m 27 #[.val (.int p1), .val (.int p2), .val (.int (1 : Int32)), .val (.ref d1), .unset, .unset, .unset, .unset] [(.int p2)]))
    refine Gl.of (fun _ kq_ => X79.ldcInt hx hown (mvT hZ (w3 hw)) (g := (mkF m 27 #[.val (.int p1), .val (.int p2), .val (.int (1 : Int32)), .val (.ref d1), .unset, .unset, .unset, .unset] [(.int p2)])) rfl (hb hby at_27) _ kq_) ?_
    show Gl p e below _ (T79.setTop (mkF m 29 #[.val (.int p1), .val (.int p2), .val (.int (1 : Int32)), .val (.ref d1), .unset, .unset, .unset, .unset] [(.int (2147483647 : Int32)), (.int p2)]))
    refine Gl.of (fun _ kq_ => XS.iand X79.here hx rfl (hb hby at_29) rfl kq_) ?_
    show Gl p e below _ (T79.setTop (mkF m 30 #[.val (.int p1), .val (.int p2), .val (.int (1 : Int32)), .val (.ref d1), .unset, .unset, .unset, .unset] [(.int (p2 &&& (2147483647 : Int32)))]))
    refine Gl.of (fun _ kq_ => XS.iconst X79.here hx rfl (hb hby at_30) kq_) ?_
    show Gl p e below _ (T79.setTop (mkF m 31 #[.val (.int p1), .val (.int p2), .val (.int (1 : Int32)), .val (.ref d1), .unset, .unset, .unset, .unset] [(.int (3 : Int32)), (.int (p2 &&& (2147483647 : Int32)))]))
    refine Gl.of (fun _ kq_ => iremM X79 hx rfl (hb hby at_31) rfl (by decide) kq_) ?_
    show Gl p e below _ (T79.setTop (mkF m 32 #[.val (.int p1), .val (.int p2), .val (.int (1 : Int32)), .val (.ref d1), .unset, .unset, .unset, .unset] [(.int ((p2 &&& (2147483647 : Int32)) % (3 : Int32)))]))
    refine Gl.of (fun _ kq_ => XS.istore X79.here hx rfl (hb hby at_32) rfl (l' := #[.val (.int p1), .val (.int p2), .val (.int (1 : Int32)), .val (.ref d1), .val (.int ((p2 &&& (2147483647 : Int32)) % (3 : Int32))), .unset, .unset, .unset]) rfl kq_) ?_
    show Gl p e below _ (T79.setTop (mkF m 34 #[.val (.int p1), .val (.int p2), .val (.int (1 : Int32)), .val (.ref d1), .val (.int ((p2 &&& (2147483647 : Int32)) % (3 : Int32))), .unset, .unset, .unset] []))
    refine Gl.of (fun _ kq_ => XS.iload X79.here hx rfl (hb hby at_34) rfl kq_) ?_
    show Gl p e below _ (T79.setTop (mkF m 36 #[.val (.int p1), .val (.int p2), .val (.int (1 : Int32)), .val (.ref d1), .val (.int ((p2 &&& (2147483647 : Int32)) % (3 : Int32))), .unset, .unset, .unset] [(.int ((p2 &&& (2147483647 : Int32)) % (3 : Int32)))]))
    by_cases hc36_80 : ((p2 &&& (2147483647 : Int32)) % (3 : Int32)) = (0 : Int32)
    · refine Gl.of (fun _ kq_ => XS.ifNo X79.here hx rfl (hb hby at_36) rfl ((if0 _ _).trans (teq hc36_80).2) kq_) ?_
      show Gl p e below _ (T79.setTop (mkF m 39 #[.val (.int p1), .val (.int p2), .val (.int (1 : Int32)), .val (.ref d1), .val (.int ((p2 &&& (2147483647 : Int32)) % (3 : Int32))), .unset, .unset, .unset] []))
      obtain ⟨T81, X81, e81, st81⟩ := getS2 X79 hx hZ hown (host := "") (Or.inl (w4 hw)) Via.refl e79 (Sm0.ext O0.2) (g := (mkF m 39 #[.val (.int p1), .val (.int p2), .val (.int (1 : Int32)), .val (.ref d1), .val (.int ((p2 &&& (2147483647 : Int32)) % (3 : Int32))), .unset, .unset, .unset] [])) rfl (hb hby at_39)
      refine Gl.of st81 ?_
      show Gl p e below _ (T81.setTop (mkF m 42 #[.val (.int p1), .val (.int p2), .val (.int (1 : Int32)), .val (.ref d1), .val (.int ((p2 &&& (2147483647 : Int32)) % (3 : Int32))), .unset, .unset, .unset] [(.ref m0)]))
      refine Gl.of (fun _ kq_ => XS.astore X81.here hx rfl (hb hby at_42) rfl rfl (l' := #[.val (.int p1), .val (.int p2), .val (.int (1 : Int32)), .val (.ref d1), .val (.int ((p2 &&& (2147483647 : Int32)) % (3 : Int32))), .val (.ref m0), .unset, .unset]) rfl kq_) ?_
      show Gl p e below _ (T81.setTop (mkF m 44 #[.val (.int p1), .val (.int p2), .val (.int (1 : Int32)), .val (.ref d1), .val (.int ((p2 &&& (2147483647 : Int32)) % (3 : Int32))), .val (.ref m0), .unset, .unset] []))
      refine Gl.of (fun _ kq_ => XS.goto X81.here hx rfl (pc0 := 44) (pc' := 66) rfl (hb hby at_44) (by decide) (by decide) kq_) ?_
      show Gl p e below _ (T81.setTop (mkF m 66 #[.val (.int p1), .val (.int p2), .val (.int (1 : Int32)), .val (.ref d1), .val (.int ((p2 &&& (2147483647 : Int32)) % (3 : Int32))), .val (.ref m0), .unset, .unset] []))
      refine Gl.of (fun _ kq_ => XS.iload X81.here hx rfl (hb hby at_66) rfl kq_) ?_
      show Gl p e below _ (T81.setTop (mkF m 68 #[.val (.int p1), .val (.int p2), .val (.int (1 : Int32)), .val (.ref d1), .val (.int ((p2 &&& (2147483647 : Int32)) % (3 : Int32))), .val (.ref m0), .unset, .unset] [(.int ((p2 &&& (2147483647 : Int32)) % (3 : Int32)))]))
      refine Gl.of (fun _ kq_ => XS.iconst X81.here hx rfl (hb hby at_68) kq_) ?_
      show Gl p e below _ (T81.setTop (mkF m 69 #[.val (.int p1), .val (.int p2), .val (.int (1 : Int32)), .val (.ref d1), .val (.int ((p2 &&& (2147483647 : Int32)) % (3 : Int32))), .val (.ref m0), .unset, .unset] [(.int (1 : Int32)), (.int ((p2 &&& (2147483647 : Int32)) % (3 : Int32)))]))
      refine Gl.of (fun _ kq_ => XS.icmpYes X81.here hx rfl (pc0 := 69) (pc' := 90) rfl (hb hby at_69) rfl (feq (by rw [hc36_80]; decide : ¬ (((p2 &&& (2147483647 : Int32)) % (3 : Int32)) = (1 : Int32)))).2 (by decide) (by decide) kq_) ?_
      show Gl p e below _ (T81.setTop (mkF m 90 #[.val (.int p1), .val (.int p2), .val (.int (1 : Int32)), .val (.ref d1), .val (.int ((p2 &&& (2147483647 : Int32)) % (3 : Int32))), .val (.ref m0), .unset, .unset] []))
      obtain ⟨b82, T82, h82, k82, t82, kb82, X82, e82, E82, hS82, hk82, hZ, hown, Ea82, Ca82, Va82, Ba82, -, -, rr82, -, sf82, st82⟩ := ldcCH X81 hx hZ hown (w7 hw) (own_str hw) e81 hS0 hk0 (own_el hw) (by decide) hR0.1 (vs := (own_fu.map (fun c => c.toInt8.toInt32)).map Value.int) (z := Int32.ofNat own_fu.length) ⟨by decide, rfl⟩ (by decide) (by decide) (g := (mkF m 90 #[.val (.int p1), .val (.int p2), .val (.int (1 : Int32)), .val (.ref d1), .val (.int ((p2 &&& (2147483647 : Int32)) % (3 : Int32))), .val (.ref m0), .unset, .unset] [])) rfl (hb hby at_90) (n := 40) (by decide) (by decide) (by decide) (by decide)
      refine Gl.of st82 ?_
      have hR82 := hR0.trans rr82
      have SG82 : Strg Z h82 b82 t82 kb82 own_fu := ⟨Ea82, Va82, Ca82, Ba82, by decide, by decide⟩
      have ec83 := ed0.ext E82
      have fc84 := fd0.ext E82
      have gc85 := sg0.ext E82
      have ec86 := ed1.ext E82
      have fc87 := fd1.ext E82
      have gc88 := sg1.ext E82
      have ec89 := em0.ext E82
      have fc90 := fm0.ext E82
      have ec91 := em1.ext E82
      have fc92 := fm1.ext E82
      have ec93 := em2.ext E82
      have fc94 := fm2.ext E82
      have O82 := O0.ext E82
      show Gl p e below _ (T82.setTop (mkF m 92 #[.val (.int p1), .val (.int p2), .val (.int (1 : Int32)), .val (.ref d1), .val (.int ((p2 &&& (2147483647 : Int32)) % (3 : Int32))), .val (.ref m0), .unset, .unset] [(.ref b82)]))
      refine Gl.of (fun _ kq_ => XS.astore X82.here hx rfl (hb hby at_92) rfl rfl (l' := #[.val (.int p1), .val (.int p2), .val (.int (1 : Int32)), .val (.ref d1), .val (.int ((p2 &&& (2147483647 : Int32)) % (3 : Int32))), .val (.ref m0), .val (.ref b82), .unset]) rfl kq_) ?_
      show Gl p e below _ (T82.setTop (mkF m 94 #[.val (.int p1), .val (.int p2), .val (.int (1 : Int32)), .val (.ref d1), .val (.int ((p2 &&& (2147483647 : Int32)) % (3 : Int32))), .val (.ref m0), .val (.ref b82), .unset] []))
      refine Gl.of (fun _ kq_ => XS.aloadN X82.here hx rfl (hb hby at_94) rfl rfl kq_) ?_
      show Gl p e below _ (T82.setTop (mkF m 95 #[.val (.int p1), .val (.int p2), .val (.int (1 : Int32)), .val (.ref d1), .val (.int ((p2 &&& (2147483647 : Int32)) % (3 : Int32))), .val (.ref m0), .val (.ref b82), .unset] [(.ref d1)]))
      refine Gl.of (fun _ kq_ => XS.aload X82.here hx rfl (hb hby at_95) rfl rfl kq_) ?_
      show Gl p e below _ (T82.setTop (mkF m 97 #[.val (.int p1), .val (.int p2), .val (.int (1 : Int32)), .val (.ref d1), .val (.int ((p2 &&& (2147483647 : Int32)) % (3 : Int32))), .val (.ref m0), .val (.ref b82), .unset] [(.ref m0), (.ref d1)]))
      refine Gl.callVH X82 hx hZ hS82 hk82 (own_el hw) hR82 (y := (⟨"com/example/schenley/schenley/Database", "lockClause", "(Lcom/example/schenley/schenley/LockMode;)Ljava/lang/String;"⟩ : MethodName)) (z := (⟨"com/example/schenley/schenley/Database", "lockClause", "(Lcom/example/schenley/schenley/LockMode;)Ljava/lang/String;"⟩ : MethodName)) hown (w15 hw) (w16 hw) (notFace_of_selects (args := #[]) (mvT hZ (w57 hw))) (w57 hw) (w17 hw) (w19 hw) (w1 hw) (desc_ne (by decide)) (rm := { frames := 1, cells := 2, slots := 44, locals := 13 }) (b := d1) (argsL := [(.ref m0)]) (rest := []) ec86 (rmL0 l Z a0 hw _ d1 m0 ac clc n0 ec89 fc90 Sv Av zv hv0 hv1 hv2 O82) 0 (by decide) (by decide) (by decide) (by decide) e82 (pc := 97) (Ls := #[.val (.int p1), .val (.int p2), .val (.int (1 : Int32)), .val (.ref d1), .val (.int ((p2 &&& (2147483647 : Int32)) % (3 : Int32))), .val (.ref m0), .val (.ref b82), .unset]) (st := [(.ref m0), (.ref d1)]) (by rw [hml]; rfl) pd_1 rfl rfl (Nat.le_of_eq rfl) (hb hby at_97) ?_
      intro v95 T95 L95 X95 hS95 hZ hown hQ95 hR95
      obtain ⟨b95, t95, kb95, rfl, SG95, E95, rfl⟩ := hQ95
      have N95 := Fr.app (Fr.nil n0) (Fr.nil n0)
      have ec96 := ec83.ext E95
      have fc97 := fc84.ext E95
      have gc98 := gc85.ext E95
      have ec99 := ec86.ext E95
      have fc100 := fc87.ext E95
      have gc101 := gc88.ext E95
      have ec102 := ec89.ext E95
      have fc103 := fc90.ext E95
      have ec104 := ec91.ext E95
      have fc105 := fc92.ext E95
      have ec106 := ec93.ext E95
      have fc107 := fc94.ext E95
      have gc108 := SG82.ext E95
      have O95 := O82.ext E95
      have hk95 := Nat.le_trans hk82 E95.1
      show Gl p e below _ (T95.setTop (mkF m 100 #[.val (.int p1), .val (.int p2), .val (.int (1 : Int32)), .val (.ref d1), .val (.int ((p2 &&& (2147483647 : Int32)) % (3 : Int32))), .val (.ref m0), .val (.ref b82), .unset] [(.ref b95)]))
      refine Gl.of (fun _ kq_ => XS.astore X95.here hx rfl (hb hby at_100) rfl rfl (l' := #[.val (.int p1), .val (.int p2), .val (.int (1 : Int32)), .val (.ref d1), .val (.int ((p2 &&& (2147483647 : Int32)) % (3 : Int32))), .val (.ref m0), .val (.ref b82), .val (.ref b95)]) rfl kq_) ?_
      show Gl p e below _ (T95.setTop (mkF m 102 #[.val (.int p1), .val (.int p2), .val (.int (1 : Int32)), .val (.ref d1), .val (.int ((p2 &&& (2147483647 : Int32)) % (3 : Int32))), .val (.ref m0), .val (.ref b82), .val (.ref b95)] []))
      refine Gl.of (fun _ kq_ => XS.aload X95.here hx rfl (hb hby at_102) rfl rfl kq_) ?_
      show Gl p e below _ (T95.setTop (mkF m 104 #[.val (.int p1), .val (.int p2), .val (.int (1 : Int32)), .val (.ref d1), .val (.int ((p2 &&& (2147483647 : Int32)) % (3 : Int32))), .val (.ref m0), .val (.ref b82), .val (.ref b95)] [(.ref b82)]))
      refine Gl.of (fun _ kq_ => XS.aload X95.here hx rfl (hb hby at_104) rfl rfl kq_) ?_
      show Gl p e below _ (T95.setTop (mkF m 106 #[.val (.int p1), .val (.int p2), .val (.int (1 : Int32)), .val (.ref d1), .val (.int ((p2 &&& (2147483647 : Int32)) % (3 : Int32))), .val (.ref m0), .val (.ref b82), .val (.ref b95)] [(.ref b95), (.ref b82)]))
      refine Gl.callVB X95 hx hZ (y := (⟨"java/lang/String", "equals", "(Ljava/lang/Object;)Z"⟩ : MethodName)) (z := (⟨"java/lang/String", "equals", "(Ljava/lang/Object;)Z"⟩ : MethodName)) hown (w33 hw) (w34 hw) (notFace_of_selects (args := #[]) (mvT hZ (w36 hw))) (w36 hw) (w35 hw) (desc_ne (by decide)) (W := 0) (fun v => (v = some (.int 1) ∧ own_fu = own_fu) ∨ (v = some (.int 0) ∧ ¬ own_fu = own_fu)) (b := b82) (argsL := [(.ref b95)]) (rest := []) gc108.1 (StrChars.Road.eqW (W := 0) hZ (own_weq hw) (kI := 4) (w9 hw) gc108.1 gc108.2.1 gc108.2.2.1 gc108.2.2.2.1 gc108.cod gc108.up gc108.2.2.2.2.2 SG95.1 SG95.2.1 SG95.2.2.1 SG95.2.2.2.1 SG95.cod SG95.up SG95.2.2.2.2.2 (SC.ext O95.2) hcz (by decide) (by decide)) (by decide) (by decide) rfl (pc := 106) (Ls := #[.val (.int p1), .val (.int p2), .val (.int (1 : Int32)), .val (.ref d1), .val (.int ((p2 &&& (2147483647 : Int32)) % (3 : Int32))), .val (.ref m0), .val (.ref b82), .val (.ref b95)]) (st := [(.ref b95), (.ref b82)]) (by rw [hml]; rfl) pd_2 rfl rfl (Nat.le_of_eq rfl) (hb hby at_106) ?_
      intro v109 T109 X109 e109 hv109
      rcases hv109 with ⟨rfl, hq109⟩ | ⟨rfl, hq109⟩
      · show Gl p e below _ (T109.setTop (mkF m 109 #[.val (.int p1), .val (.int p2), .val (.int (1 : Int32)), .val (.ref d1), .val (.int ((p2 &&& (2147483647 : Int32)) % (3 : Int32))), .val (.ref m0), .val (.ref b82), .val (.ref b95)] [(.int (1 : Int32))]))
        exact Gl.retNH X109 hx hlk hret (by simp) (hb hby at_109) e109 (⟨rfl, N95⟩) hS95 (Nat.le_refl _) hZ (own_el hw) hR95 (by decide) (by decide)
      · exact absurd rfl hq109
    · refine Gl.of (fun _ kq_ => XS.ifYes X79.here hx rfl (pc0 := 36) (pc' := 47) rfl (hb hby at_36) rfl ((if0 _ _).trans (feq hc36_80).2) (by decide) (by decide) kq_) ?_
      show Gl p e below _ (T79.setTop (mkF m 47 #[.val (.int p1), .val (.int p2), .val (.int (1 : Int32)), .val (.ref d1), .val (.int ((p2 &&& (2147483647 : Int32)) % (3 : Int32))), .unset, .unset, .unset] []))
      refine Gl.of (fun _ kq_ => XS.iload X79.here hx rfl (hb hby at_47) rfl kq_) ?_
      show Gl p e below _ (T79.setTop (mkF m 49 #[.val (.int p1), .val (.int p2), .val (.int (1 : Int32)), .val (.ref d1), .val (.int ((p2 &&& (2147483647 : Int32)) % (3 : Int32))), .unset, .unset, .unset] [(.int ((p2 &&& (2147483647 : Int32)) % (3 : Int32)))]))
      refine Gl.of (fun _ kq_ => XS.iconst X79.here hx rfl (hb hby at_49) kq_) ?_
      show Gl p e below _ (T79.setTop (mkF m 50 #[.val (.int p1), .val (.int p2), .val (.int (1 : Int32)), .val (.ref d1), .val (.int ((p2 &&& (2147483647 : Int32)) % (3 : Int32))), .unset, .unset, .unset] [(.int (1 : Int32)), (.int ((p2 &&& (2147483647 : Int32)) % (3 : Int32)))]))
      by_cases hc50_110 : ((p2 &&& (2147483647 : Int32)) % (3 : Int32)) = (1 : Int32)
      · refine Gl.of (fun _ kq_ => XS.icmpNo X79.here hx rfl (hb hby at_50) rfl (teq hc50_110).2 kq_) ?_
        show Gl p e below _ (T79.setTop (mkF m 53 #[.val (.int p1), .val (.int p2), .val (.int (1 : Int32)), .val (.ref d1), .val (.int ((p2 &&& (2147483647 : Int32)) % (3 : Int32))), .unset, .unset, .unset] []))
        obtain ⟨T111, X111, e111, st111⟩ := getS2 X79 hx hZ hown (host := "") (Or.inl (w38 hw)) Via.refl e79 (Sm1.ext O0.2) (g := (mkF m 53 #[.val (.int p1), .val (.int p2), .val (.int (1 : Int32)), .val (.ref d1), .val (.int ((p2 &&& (2147483647 : Int32)) % (3 : Int32))), .unset, .unset, .unset] [])) rfl (hb hby at_53)
        refine Gl.of st111 ?_
        show Gl p e below _ (T111.setTop (mkF m 56 #[.val (.int p1), .val (.int p2), .val (.int (1 : Int32)), .val (.ref d1), .val (.int ((p2 &&& (2147483647 : Int32)) % (3 : Int32))), .unset, .unset, .unset] [(.ref m1)]))
        refine Gl.of (fun _ kq_ => XS.astore X111.here hx rfl (hb hby at_56) rfl rfl (l' := #[.val (.int p1), .val (.int p2), .val (.int (1 : Int32)), .val (.ref d1), .val (.int ((p2 &&& (2147483647 : Int32)) % (3 : Int32))), .val (.ref m1), .unset, .unset]) rfl kq_) ?_
        show Gl p e below _ (T111.setTop (mkF m 58 #[.val (.int p1), .val (.int p2), .val (.int (1 : Int32)), .val (.ref d1), .val (.int ((p2 &&& (2147483647 : Int32)) % (3 : Int32))), .val (.ref m1), .unset, .unset] []))
        refine Gl.of (fun _ kq_ => XS.goto X111.here hx rfl (pc0 := 58) (pc' := 66) rfl (hb hby at_58) (by decide) (by decide) kq_) ?_
        show Gl p e below _ (T111.setTop (mkF m 66 #[.val (.int p1), .val (.int p2), .val (.int (1 : Int32)), .val (.ref d1), .val (.int ((p2 &&& (2147483647 : Int32)) % (3 : Int32))), .val (.ref m1), .unset, .unset] []))
        refine Gl.of (fun _ kq_ => XS.iload X111.here hx rfl (hb hby at_66) rfl kq_) ?_
        show Gl p e below _ (T111.setTop (mkF m 68 #[.val (.int p1), .val (.int p2), .val (.int (1 : Int32)), .val (.ref d1), .val (.int ((p2 &&& (2147483647 : Int32)) % (3 : Int32))), .val (.ref m1), .unset, .unset] [(.int ((p2 &&& (2147483647 : Int32)) % (3 : Int32)))]))
        refine Gl.of (fun _ kq_ => XS.iconst X111.here hx rfl (hb hby at_68) kq_) ?_
        show Gl p e below _ (T111.setTop (mkF m 69 #[.val (.int p1), .val (.int p2), .val (.int (1 : Int32)), .val (.ref d1), .val (.int ((p2 &&& (2147483647 : Int32)) % (3 : Int32))), .val (.ref m1), .unset, .unset] [(.int (1 : Int32)), (.int ((p2 &&& (2147483647 : Int32)) % (3 : Int32)))]))
        refine Gl.of (fun _ kq_ => XS.icmpNo X111.here hx rfl (hb hby at_69) rfl (teq hc50_110).2 kq_) ?_
        show Gl p e below _ (T111.setTop (mkF m 72 #[.val (.int p1), .val (.int p2), .val (.int (1 : Int32)), .val (.ref d1), .val (.int ((p2 &&& (2147483647 : Int32)) % (3 : Int32))), .val (.ref m1), .unset, .unset] []))
        refine Gl.of (fun _ kq_ => XS.iloadN X111.here hx rfl (hb hby at_72) rfl kq_) ?_
        show Gl p e below _ (T111.setTop (mkF m 73 #[.val (.int p1), .val (.int p2), .val (.int (1 : Int32)), .val (.ref d1), .val (.int ((p2 &&& (2147483647 : Int32)) % (3 : Int32))), .val (.ref m1), .unset, .unset] [(.int (1 : Int32))]))
        refine Gl.of (fun _ kq_ => XS.ifNo X111.here hx rfl (hb hby at_73) rfl ((if0 _ _).trans (feq (by decide : ¬ ((1 : Int32) = (0 : Int32)))).1) kq_) ?_
        show Gl p e below _ (T111.setTop (mkF m 76 #[.val (.int p1), .val (.int p2), .val (.int (1 : Int32)), .val (.ref d1), .val (.int ((p2 &&& (2147483647 : Int32)) % (3 : Int32))), .val (.ref m1), .unset, .unset] []))
        obtain ⟨b112, T112, h112, k112, t112, kb112, X112, e112, E112, hS112, hk112, hZ, hown, Ea112, Ca112, Va112, Ba112, -, -, rr112, -, sf112, st112⟩ := ldcCH X111 hx hZ hown (w56 hw) (own_str hw) e111 hS0 hk0 (own_el hw) (by decide) hR0.1 (vs := (own_lm.map (fun c => c.toInt8.toInt32)).map Value.int) (z := Int32.ofNat own_lm.length) ⟨by decide, rfl⟩ (by decide) (by decide) (g := (mkF m 76 #[.val (.int p1), .val (.int p2), .val (.int (1 : Int32)), .val (.ref d1), .val (.int ((p2 &&& (2147483647 : Int32)) % (3 : Int32))), .val (.ref m1), .unset, .unset] [])) rfl (hb hby at_76) (n := 72) (by decide) (by decide) (by decide) (by decide)
        refine Gl.of st112 ?_
        have hR112 := hR0.trans rr112
        have SG112 : Strg Z h112 b112 t112 kb112 own_lm := ⟨Ea112, Va112, Ca112, Ba112, by decide, by decide⟩
        have ec113 := ed0.ext E112
        have fc114 := fd0.ext E112
        have gc115 := sg0.ext E112
        have ec116 := ed1.ext E112
        have fc117 := fd1.ext E112
        have gc118 := sg1.ext E112
        have ec119 := em0.ext E112
        have fc120 := fm0.ext E112
        have ec121 := em1.ext E112
        have fc122 := fm1.ext E112
        have ec123 := em2.ext E112
        have fc124 := fm2.ext E112
        have O112 := O0.ext E112
        show Gl p e below _ (T112.setTop (mkF m 78 #[.val (.int p1), .val (.int p2), .val (.int (1 : Int32)), .val (.ref d1), .val (.int ((p2 &&& (2147483647 : Int32)) % (3 : Int32))), .val (.ref m1), .unset, .unset] [(.ref b112)]))
        refine Gl.of (fun _ kq_ => XS.astore X112.here hx rfl (hb hby at_78) rfl rfl (l' := #[.val (.int p1), .val (.int p2), .val (.int (1 : Int32)), .val (.ref d1), .val (.int ((p2 &&& (2147483647 : Int32)) % (3 : Int32))), .val (.ref m1), .val (.ref b112), .unset]) rfl kq_) ?_
        show Gl p e below _ (T112.setTop (mkF m 80 #[.val (.int p1), .val (.int p2), .val (.int (1 : Int32)), .val (.ref d1), .val (.int ((p2 &&& (2147483647 : Int32)) % (3 : Int32))), .val (.ref m1), .val (.ref b112), .unset] []))
        refine Gl.of (fun _ kq_ => XS.goto X112.here hx rfl (pc0 := 80) (pc' := 94) rfl (hb hby at_80) (by decide) (by decide) kq_) ?_
        show Gl p e below _ (T112.setTop (mkF m 94 #[.val (.int p1), .val (.int p2), .val (.int (1 : Int32)), .val (.ref d1), .val (.int ((p2 &&& (2147483647 : Int32)) % (3 : Int32))), .val (.ref m1), .val (.ref b112), .unset] []))
        refine Gl.of (fun _ kq_ => XS.aloadN X112.here hx rfl (hb hby at_94) rfl rfl kq_) ?_
        show Gl p e below _ (T112.setTop (mkF m 95 #[.val (.int p1), .val (.int p2), .val (.int (1 : Int32)), .val (.ref d1), .val (.int ((p2 &&& (2147483647 : Int32)) % (3 : Int32))), .val (.ref m1), .val (.ref b112), .unset] [(.ref d1)]))
        refine Gl.of (fun _ kq_ => XS.aload X112.here hx rfl (hb hby at_95) rfl rfl kq_) ?_
        show Gl p e below _ (T112.setTop (mkF m 97 #[.val (.int p1), .val (.int p2), .val (.int (1 : Int32)), .val (.ref d1), .val (.int ((p2 &&& (2147483647 : Int32)) % (3 : Int32))), .val (.ref m1), .val (.ref b112), .unset] [(.ref m1), (.ref d1)]))
        refine Gl.callV0 X112 hx hZ (y := (⟨"com/example/schenley/schenley/Database", "lockClause", "(Lcom/example/schenley/schenley/LockMode;)Ljava/lang/String;"⟩ : MethodName)) (z := (⟨"com/example/schenley/schenley/Database", "lockClause", "(Lcom/example/schenley/schenley/LockMode;)Ljava/lang/String;"⟩ : MethodName)) hown (w15 hw) (w16 hw) (notFace_of_selects (args := #[]) (mvT hZ (w57 hw))) (w57 hw) (w17 hw) (w19 hw) (w1 hw) (desc_ne (by decide)) (b := d1) (argsL := [(.ref m1)]) (rest := []) ec116 (rmL1 l Z a0 hw _ d1 m1 x1 ac clc n0 fc117 ec121 fc122 Sv Av zv hv0 hv1 hv2 O112) 0 (by decide) (by decide) e112 (pc := 97) (Ls := #[.val (.int p1), .val (.int p2), .val (.int (1 : Int32)), .val (.ref d1), .val (.int ((p2 &&& (2147483647 : Int32)) % (3 : Int32))), .val (.ref m1), .val (.ref b112), .unset]) (st := [(.ref m1), (.ref d1)]) (by rw [hml]; rfl) pd_1 rfl rfl (Nat.le_of_eq rfl) (hb hby at_97) (by decide) (by decide) ?_
        intro v125 T125 X125 e125 hv125
        subst hv125
        show Gl p e below _ (T125.setTop (mkF m 100 #[.val (.int p1), .val (.int p2), .val (.int (1 : Int32)), .val (.ref d1), .val (.int ((p2 &&& (2147483647 : Int32)) % (3 : Int32))), .val (.ref m1), .val (.ref b112), .unset] [(.ref x1)]))
        refine Gl.of (fun _ kq_ => XS.astore X125.here hx rfl (hb hby at_100) rfl rfl (l' := #[.val (.int p1), .val (.int p2), .val (.int (1 : Int32)), .val (.ref d1), .val (.int ((p2 &&& (2147483647 : Int32)) % (3 : Int32))), .val (.ref m1), .val (.ref b112), .val (.ref x1)]) rfl kq_) ?_
        show Gl p e below _ (T125.setTop (mkF m 102 #[.val (.int p1), .val (.int p2), .val (.int (1 : Int32)), .val (.ref d1), .val (.int ((p2 &&& (2147483647 : Int32)) % (3 : Int32))), .val (.ref m1), .val (.ref b112), .val (.ref x1)] []))
        refine Gl.of (fun _ kq_ => XS.aload X125.here hx rfl (hb hby at_102) rfl rfl kq_) ?_
        show Gl p e below _ (T125.setTop (mkF m 104 #[.val (.int p1), .val (.int p2), .val (.int (1 : Int32)), .val (.ref d1), .val (.int ((p2 &&& (2147483647 : Int32)) % (3 : Int32))), .val (.ref m1), .val (.ref b112), .val (.ref x1)] [(.ref b112)]))
        refine Gl.of (fun _ kq_ => XS.aload X125.here hx rfl (hb hby at_104) rfl rfl kq_) ?_
        show Gl p e below _ (T125.setTop (mkF m 106 #[.val (.int p1), .val (.int p2), .val (.int (1 : Int32)), .val (.ref d1), .val (.int ((p2 &&& (2147483647 : Int32)) % (3 : Int32))), .val (.ref m1), .val (.ref b112), .val (.ref x1)] [(.ref x1), (.ref b112)]))
        refine Gl.callVB X125 hx hZ (y := (⟨"java/lang/String", "equals", "(Ljava/lang/Object;)Z"⟩ : MethodName)) (z := (⟨"java/lang/String", "equals", "(Ljava/lang/Object;)Z"⟩ : MethodName)) hown (w33 hw) (w34 hw) (notFace_of_selects (args := #[]) (mvT hZ (w36 hw))) (w36 hw) (w35 hw) (desc_ne (by decide)) (W := 0) (fun v => (v = some (.int 1) ∧ own_lm = own_lm) ∨ (v = some (.int 0) ∧ ¬ own_lm = own_lm)) (b := b112) (argsL := [(.ref x1)]) (rest := []) SG112.1 (StrChars.Road.eqW (W := 0) hZ (own_weq hw) (kI := 4) (w9 hw) SG112.1 SG112.2.1 SG112.2.2.1 SG112.2.2.2.1 SG112.cod SG112.up SG112.2.2.2.2.2 gc118.1 gc118.2.1 gc118.2.2.1 gc118.2.2.2.1 gc118.cod gc118.up gc118.2.2.2.2.2 (SC.ext O112.2) hcz (by decide) (by decide)) (by decide) (by decide) e125 (pc := 106) (Ls := #[.val (.int p1), .val (.int p2), .val (.int (1 : Int32)), .val (.ref d1), .val (.int ((p2 &&& (2147483647 : Int32)) % (3 : Int32))), .val (.ref m1), .val (.ref b112), .val (.ref x1)]) (st := [(.ref x1), (.ref b112)]) (by rw [hml]; rfl) pd_2 rfl rfl (Nat.le_of_eq rfl) (hb hby at_106) ?_
        intro v126 T126 X126 e126 hv126
        rcases hv126 with ⟨rfl, hq126⟩ | ⟨rfl, hq126⟩
        · show Gl p e below _ (T126.setTop (mkF m 109 #[.val (.int p1), .val (.int p2), .val (.int (1 : Int32)), .val (.ref d1), .val (.int ((p2 &&& (2147483647 : Int32)) % (3 : Int32))), .val (.ref m1), .val (.ref b112), .val (.ref x1)] [(.int (1 : Int32))]))
          exact Gl.retNH X126 hx hlk hret (by simp) (hb hby at_109) e126 (⟨rfl, (Fr.nil n0)⟩) hS112 hk112 hZ (own_el hw) hR112 (by decide) (by decide)
        · exact absurd rfl hq126
      · refine Gl.of (fun _ kq_ => XS.icmpYes X79.here hx rfl (pc0 := 50) (pc' := 61) rfl (hb hby at_50) rfl (feq hc50_110).2 (by decide) (by decide) kq_) ?_
        show Gl p e below _ (T79.setTop (mkF m 61 #[.val (.int p1), .val (.int p2), .val (.int (1 : Int32)), .val (.ref d1), .val (.int ((p2 &&& (2147483647 : Int32)) % (3 : Int32))), .unset, .unset, .unset] []))
        obtain ⟨T127, X127, e127, st127⟩ := getS2 X79 hx hZ hown (host := "") (Or.inl (w52 hw)) Via.refl e79 (Sm2.ext O0.2) (g := (mkF m 61 #[.val (.int p1), .val (.int p2), .val (.int (1 : Int32)), .val (.ref d1), .val (.int ((p2 &&& (2147483647 : Int32)) % (3 : Int32))), .unset, .unset, .unset] [])) rfl (hb hby at_61)
        refine Gl.of st127 ?_
        show Gl p e below _ (T127.setTop (mkF m 64 #[.val (.int p1), .val (.int p2), .val (.int (1 : Int32)), .val (.ref d1), .val (.int ((p2 &&& (2147483647 : Int32)) % (3 : Int32))), .unset, .unset, .unset] [(.ref m2)]))
        refine Gl.of (fun _ kq_ => XS.astore X127.here hx rfl (hb hby at_64) rfl rfl (l' := #[.val (.int p1), .val (.int p2), .val (.int (1 : Int32)), .val (.ref d1), .val (.int ((p2 &&& (2147483647 : Int32)) % (3 : Int32))), .val (.ref m2), .unset, .unset]) rfl kq_) ?_
        show Gl p e below _ (T127.setTop (mkF m 66 #[.val (.int p1), .val (.int p2), .val (.int (1 : Int32)), .val (.ref d1), .val (.int ((p2 &&& (2147483647 : Int32)) % (3 : Int32))), .val (.ref m2), .unset, .unset] []))
        refine Gl.of (fun _ kq_ => XS.iload X127.here hx rfl (hb hby at_66) rfl kq_) ?_
        show Gl p e below _ (T127.setTop (mkF m 68 #[.val (.int p1), .val (.int p2), .val (.int (1 : Int32)), .val (.ref d1), .val (.int ((p2 &&& (2147483647 : Int32)) % (3 : Int32))), .val (.ref m2), .unset, .unset] [(.int ((p2 &&& (2147483647 : Int32)) % (3 : Int32)))]))
        refine Gl.of (fun _ kq_ => XS.iconst X127.here hx rfl (hb hby at_68) kq_) ?_
        show Gl p e below _ (T127.setTop (mkF m 69 #[.val (.int p1), .val (.int p2), .val (.int (1 : Int32)), .val (.ref d1), .val (.int ((p2 &&& (2147483647 : Int32)) % (3 : Int32))), .val (.ref m2), .unset, .unset] [(.int (1 : Int32)), (.int ((p2 &&& (2147483647 : Int32)) % (3 : Int32)))]))
        refine Gl.of (fun _ kq_ => XS.icmpYes X127.here hx rfl (pc0 := 69) (pc' := 90) rfl (hb hby at_69) rfl (feq hc50_110).2 (by decide) (by decide) kq_) ?_
        show Gl p e below _ (T127.setTop (mkF m 90 #[.val (.int p1), .val (.int p2), .val (.int (1 : Int32)), .val (.ref d1), .val (.int ((p2 &&& (2147483647 : Int32)) % (3 : Int32))), .val (.ref m2), .unset, .unset] []))
        obtain ⟨b128, T128, h128, k128, t128, kb128, X128, e128, E128, hS128, hk128, hZ, hown, Ea128, Ca128, Va128, Ba128, -, -, rr128, -, sf128, st128⟩ := ldcCH X127 hx hZ hown (w7 hw) (own_str hw) e127 hS0 hk0 (own_el hw) (by decide) hR0.1 (vs := (own_fu.map (fun c => c.toInt8.toInt32)).map Value.int) (z := Int32.ofNat own_fu.length) ⟨by decide, rfl⟩ (by decide) (by decide) (g := (mkF m 90 #[.val (.int p1), .val (.int p2), .val (.int (1 : Int32)), .val (.ref d1), .val (.int ((p2 &&& (2147483647 : Int32)) % (3 : Int32))), .val (.ref m2), .unset, .unset] [])) rfl (hb hby at_90) (n := 40) (by decide) (by decide) (by decide) (by decide)
        refine Gl.of st128 ?_
        have hR128 := hR0.trans rr128
        have SG128 : Strg Z h128 b128 t128 kb128 own_fu := ⟨Ea128, Va128, Ca128, Ba128, by decide, by decide⟩
        have ec129 := ed0.ext E128
        have fc130 := fd0.ext E128
        have gc131 := sg0.ext E128
        have ec132 := ed1.ext E128
        have fc133 := fd1.ext E128
        have gc134 := sg1.ext E128
        have ec135 := em0.ext E128
        have fc136 := fm0.ext E128
        have ec137 := em1.ext E128
        have fc138 := fm1.ext E128
        have ec139 := em2.ext E128
        have fc140 := fm2.ext E128
        have O128 := O0.ext E128
        show Gl p e below _ (T128.setTop (mkF m 92 #[.val (.int p1), .val (.int p2), .val (.int (1 : Int32)), .val (.ref d1), .val (.int ((p2 &&& (2147483647 : Int32)) % (3 : Int32))), .val (.ref m2), .unset, .unset] [(.ref b128)]))
        refine Gl.of (fun _ kq_ => XS.astore X128.here hx rfl (hb hby at_92) rfl rfl (l' := #[.val (.int p1), .val (.int p2), .val (.int (1 : Int32)), .val (.ref d1), .val (.int ((p2 &&& (2147483647 : Int32)) % (3 : Int32))), .val (.ref m2), .val (.ref b128), .unset]) rfl kq_) ?_
        show Gl p e below _ (T128.setTop (mkF m 94 #[.val (.int p1), .val (.int p2), .val (.int (1 : Int32)), .val (.ref d1), .val (.int ((p2 &&& (2147483647 : Int32)) % (3 : Int32))), .val (.ref m2), .val (.ref b128), .unset] []))
        refine Gl.of (fun _ kq_ => XS.aloadN X128.here hx rfl (hb hby at_94) rfl rfl kq_) ?_
        show Gl p e below _ (T128.setTop (mkF m 95 #[.val (.int p1), .val (.int p2), .val (.int (1 : Int32)), .val (.ref d1), .val (.int ((p2 &&& (2147483647 : Int32)) % (3 : Int32))), .val (.ref m2), .val (.ref b128), .unset] [(.ref d1)]))
        refine Gl.of (fun _ kq_ => XS.aload X128.here hx rfl (hb hby at_95) rfl rfl kq_) ?_
        show Gl p e below _ (T128.setTop (mkF m 97 #[.val (.int p1), .val (.int p2), .val (.int (1 : Int32)), .val (.ref d1), .val (.int ((p2 &&& (2147483647 : Int32)) % (3 : Int32))), .val (.ref m2), .val (.ref b128), .unset] [(.ref m2), (.ref d1)]))
        refine Gl.callVH X128 hx hZ hS128 hk128 (own_el hw) hR128 (y := (⟨"com/example/schenley/schenley/Database", "lockClause", "(Lcom/example/schenley/schenley/LockMode;)Ljava/lang/String;"⟩ : MethodName)) (z := (⟨"com/example/schenley/schenley/Database", "lockClause", "(Lcom/example/schenley/schenley/LockMode;)Ljava/lang/String;"⟩ : MethodName)) hown (w15 hw) (w16 hw) (notFace_of_selects (args := #[]) (mvT hZ (w57 hw))) (w57 hw) (w17 hw) (w19 hw) (w1 hw) (desc_ne (by decide)) (rm := { frames := 1, cells := 2, slots := 44, locals := 13 }) (b := d1) (argsL := [(.ref m2)]) (rest := []) ec132 (rmL2 l Z a0 hw _ d1 m2 ac clc n0 ec139 fc140 Sv Av zv hv0 hv1 hv2 O128) 0 (by decide) (by decide) (by decide) (by decide) e128 (pc := 97) (Ls := #[.val (.int p1), .val (.int p2), .val (.int (1 : Int32)), .val (.ref d1), .val (.int ((p2 &&& (2147483647 : Int32)) % (3 : Int32))), .val (.ref m2), .val (.ref b128), .unset]) (st := [(.ref m2), (.ref d1)]) (by rw [hml]; rfl) pd_1 rfl rfl (Nat.le_of_eq rfl) (hb hby at_97) ?_
        intro v141 T141 L141 X141 hS141 hZ hown hQ141 hR141
        obtain ⟨b141, t141, kb141, rfl, SG141, E141, rfl⟩ := hQ141
        have N141 := Fr.app (Fr.nil n0) (Fr.nil n0)
        have ec142 := ec129.ext E141
        have fc143 := fc130.ext E141
        have gc144 := gc131.ext E141
        have ec145 := ec132.ext E141
        have fc146 := fc133.ext E141
        have gc147 := gc134.ext E141
        have ec148 := ec135.ext E141
        have fc149 := fc136.ext E141
        have ec150 := ec137.ext E141
        have fc151 := fc138.ext E141
        have ec152 := ec139.ext E141
        have fc153 := fc140.ext E141
        have gc154 := SG128.ext E141
        have O141 := O128.ext E141
        have hk141 := Nat.le_trans hk128 E141.1
        show Gl p e below _ (T141.setTop (mkF m 100 #[.val (.int p1), .val (.int p2), .val (.int (1 : Int32)), .val (.ref d1), .val (.int ((p2 &&& (2147483647 : Int32)) % (3 : Int32))), .val (.ref m2), .val (.ref b128), .unset] [(.ref b141)]))
        refine Gl.of (fun _ kq_ => XS.astore X141.here hx rfl (hb hby at_100) rfl rfl (l' := #[.val (.int p1), .val (.int p2), .val (.int (1 : Int32)), .val (.ref d1), .val (.int ((p2 &&& (2147483647 : Int32)) % (3 : Int32))), .val (.ref m2), .val (.ref b128), .val (.ref b141)]) rfl kq_) ?_
        show Gl p e below _ (T141.setTop (mkF m 102 #[.val (.int p1), .val (.int p2), .val (.int (1 : Int32)), .val (.ref d1), .val (.int ((p2 &&& (2147483647 : Int32)) % (3 : Int32))), .val (.ref m2), .val (.ref b128), .val (.ref b141)] []))
        refine Gl.of (fun _ kq_ => XS.aload X141.here hx rfl (hb hby at_102) rfl rfl kq_) ?_
        show Gl p e below _ (T141.setTop (mkF m 104 #[.val (.int p1), .val (.int p2), .val (.int (1 : Int32)), .val (.ref d1), .val (.int ((p2 &&& (2147483647 : Int32)) % (3 : Int32))), .val (.ref m2), .val (.ref b128), .val (.ref b141)] [(.ref b128)]))
        refine Gl.of (fun _ kq_ => XS.aload X141.here hx rfl (hb hby at_104) rfl rfl kq_) ?_
        show Gl p e below _ (T141.setTop (mkF m 106 #[.val (.int p1), .val (.int p2), .val (.int (1 : Int32)), .val (.ref d1), .val (.int ((p2 &&& (2147483647 : Int32)) % (3 : Int32))), .val (.ref m2), .val (.ref b128), .val (.ref b141)] [(.ref b141), (.ref b128)]))
        refine Gl.callVB X141 hx hZ (y := (⟨"java/lang/String", "equals", "(Ljava/lang/Object;)Z"⟩ : MethodName)) (z := (⟨"java/lang/String", "equals", "(Ljava/lang/Object;)Z"⟩ : MethodName)) hown (w33 hw) (w34 hw) (notFace_of_selects (args := #[]) (mvT hZ (w36 hw))) (w36 hw) (w35 hw) (desc_ne (by decide)) (W := 0) (fun v => (v = some (.int 1) ∧ own_fu = own_fu) ∨ (v = some (.int 0) ∧ ¬ own_fu = own_fu)) (b := b128) (argsL := [(.ref b141)]) (rest := []) gc154.1 (StrChars.Road.eqW (W := 0) hZ (own_weq hw) (kI := 4) (w9 hw) gc154.1 gc154.2.1 gc154.2.2.1 gc154.2.2.2.1 gc154.cod gc154.up gc154.2.2.2.2.2 SG141.1 SG141.2.1 SG141.2.2.1 SG141.2.2.2.1 SG141.cod SG141.up SG141.2.2.2.2.2 (SC.ext O141.2) hcz (by decide) (by decide)) (by decide) (by decide) rfl (pc := 106) (Ls := #[.val (.int p1), .val (.int p2), .val (.int (1 : Int32)), .val (.ref d1), .val (.int ((p2 &&& (2147483647 : Int32)) % (3 : Int32))), .val (.ref m2), .val (.ref b128), .val (.ref b141)]) (st := [(.ref b141), (.ref b128)]) (by rw [hml]; rfl) pd_2 rfl rfl (Nat.le_of_eq rfl) (hb hby at_106) ?_
        intro v155 T155 X155 e155 hv155
        rcases hv155 with ⟨rfl, hq155⟩ | ⟨rfl, hq155⟩
        · show Gl p e below _ (T155.setTop (mkF m 109 #[.val (.int p1), .val (.int p2), .val (.int (1 : Int32)), .val (.ref d1), .val (.int ((p2 &&& (2147483647 : Int32)) % (3 : Int32))), .val (.ref m2), .val (.ref b128), .val (.ref b141)] [(.int (1 : Int32))]))
          exact Gl.retNH X155 hx hlk hret (by simp) (hb hby at_109) e155 (⟨rfl, N141⟩) hS141 (Nat.le_refl _) hZ (own_el hw) hR141 (by decide) (by decide)
        · exact absurd rfl hq155
theorem w10 {Z : State} {a0 : Array Value} (hw : ∀ d ∈ tables_1, d.before a0 Z = true) : (Jvm.Cond.arrayClass Jvm.ClassFile.FieldType.byte).before a0 Z = true := hw _ (List.mem_of_getElem? (i := 10) rfl)
theorem w21 {Z : State} {a0 : Array Value} (hw : ∀ d ∈ tables_1, d.before a0 Z = true) : (Jvm.Cond.initialized "com/example/schenley/schenley/Database$3").before a0 Z = true := hw _ (List.mem_of_getElem? (i := 21) rfl)
theorem w22 {Z : State} {a0 : Array Value} (hw : ∀ d ∈ tables_1, d.before a0 Z = true) : (Jvm.Cond.laysStatic "com/example/schenley/schenley/Database$3" "$SwitchMap$com$example$schenley$schenley$LockMode" "[I").before a0 Z = true := hw _ (List.mem_of_getElem? (i := 22) rfl)
theorem w5 {Z : State} {a0 : Array Value} (hw : ∀ d ∈ tables_1, d.before a0 Z = true) : (Jvm.Cond.initialized "com/example/schenley/schenley/LockMode").before a0 Z = true := hw _ (List.mem_of_getElem? (i := 5) rfl)
theorem w6 {Z : State} {a0 : Array Value} (hw : ∀ d ∈ tables_1, d.before a0 Z = true) : (Jvm.Cond.laysStatic "com/example/schenley/schenley/LockMode" "EXCLUSIVE" "Lcom/example/schenley/schenley/LockMode;").before a0 Z = true := hw _ (List.mem_of_getElem? (i := 6) rfl)
theorem w39 {Z : State} {a0 : Array Value} (hw : ∀ d ∈ tables_1, d.before a0 Z = true) : (Jvm.Cond.laysStatic "com/example/schenley/schenley/LockMode" "SHARED" "Lcom/example/schenley/schenley/LockMode;").before a0 Z = true := hw _ (List.mem_of_getElem? (i := 39) rfl)
theorem w53 {Z : State} {a0 : Array Value} (hw : ∀ d ∈ tables_1, d.before a0 Z = true) : (Jvm.Cond.laysStatic "com/example/schenley/schenley/LockMode" "FORCE_INCREMENT" "Lcom/example/schenley/schenley/LockMode;").before a0 Z = true := hw _ (List.mem_of_getElem? (i := 53) rfl)
theorem w2 {Z : State} {a0 : Array Value} (hw : ∀ d ∈ tables_1, d.before a0 Z = true) : (Jvm.Cond.laysStatic "com/example/schenley/schenley/Database" "POSTGRESQL" "Lcom/example/schenley/schenley/Database;").before a0 Z = true := hw _ (List.mem_of_getElem? (i := 2) rfl)
theorem w55 {Z : State} {a0 : Array Value} (hw : ∀ d ∈ tables_1, d.before a0 Z = true) : (Jvm.Cond.laysStatic "com/example/schenley/schenley/Database" "MARIADB" "Lcom/example/schenley/schenley/Database;").before a0 Z = true := hw _ (List.mem_of_getElem? (i := 55) rfl)
set_option maxRecDepth 65536 in
set_option maxHeartbeats 40000000 in
theorem comes_1 {Post : Tables → Env → Array Value → State → Outcome → State → Prop} (hpost : ∀ tb e args s v u, (limb_1_1.after args s (.returned v) u = true ∧ limb_1_2.after args s (.returned v) u = true ∧ True) → ReturnedEndW s (.returned v) u (Jvm.fieldLocs frame_1_writes args s ++ Jvm.arrayLocs frame_1_arrays args s ++ Jvm.staticLocs frame_1_statics s) 8 4160 → Post tb e args s (.returned v) u) :
    ArmFor flags0 classFile x code maxLocals ret World_1 tables_1 room_1 Calls_1 rest_1 Pre_1 Post := by
  intro l hfl _ _ p e ha hc hk s m args below hf hA hF happ hP
  obtain ⟨hcalls, hrest, hpre⟩ := hP
  obtain ⟨-, -, -, hnamed, -, -, -, hat⟩ := (Spec.applies_iff hf).mp happ
  obtain ⟨hg, hn⟩ := and_e (Cond.before_iff.mp (show (Jvm.Cond.and given_1 narrow_1).before args s = true from hpre))
  obtain ⟨g_c, q_g_c⟩ := and_e hg
  obtain ⟨g_0, q_g_0⟩ := and_e q_g_c
  have g_1 := q_g_0
  obtain ⟨w_0, w_1, rfl⟩ : ∃ w_0 w_1 : Value, args = #[w_0, w_1] := by
    have hs : args.size = 2 := by simpa [Cond.value, given_1] using g_c
    obtain ⟨L⟩ := args
    match L, hs with
    | [w_0, w_1], _ => exact ⟨w_0, w_1, rfl⟩
  have hw := fun d (hd : d ∈ tables_1) => atoms_spec (ws := Jvm.Cond.code x code maxLocals ret :: tables_1) hat d (List.mem_cons_of_mem _ hd)
  have hfit : Fit s := fun {y c} hc i hi => by
    obtain ⟨ha, rfl⟩ := Array.getElem?_eq_some_iff.mp hc
    have q := List.all_eq_true.mp ((Array.all_eq_true_iff_forall_mem.mp hF) _ (Array.getElem_mem ha)) i (List.mem_range.mpr hi)
    simpa [Array.getElem?_eq_getElem hi] using q
  obtain ⟨p1, ei0⟩ := is_v g_0
  obtain rfl : w_0 = (.int p1) := Option.some.inj ei0
  obtain ⟨p2, ei1⟩ := is_v g_1
  obtain rfl : w_1 = (.int p2) := Option.some.inj ei1
  obtain ⟨n0, q_n0⟩ := and_e hn
  obtain ⟨n1, q_n1⟩ := and_e q_n0
  obtain ⟨n2, q_n2⟩ := and_e q_n1
  obtain ⟨n3, q_n3⟩ := and_e q_n2
  obtain ⟨n4, q_n4⟩ := and_e q_n3
  obtain ⟨n5, q_n5⟩ := and_e q_n4
  obtain ⟨n6, q_n6⟩ := and_e q_n5
  obtain ⟨n7, q_n7⟩ := and_e q_n6
  obtain ⟨n8, q_n8⟩ := and_e q_n7
  obtain ⟨n9, q_n9⟩ := and_e q_n8
  obtain ⟨n10, q_n10⟩ := and_e q_n9
  obtain ⟨n11, q_n11⟩ := and_e q_n10
  obtain ⟨n12, q_n12⟩ := and_e q_n11
  obtain ⟨n13, q_n13⟩ := and_e q_n12
  obtain ⟨n14, q_n14⟩ := and_e q_n13
  obtain ⟨n15, q_n15⟩ := and_e q_n14
  obtain ⟨n16, q_n16⟩ := and_e q_n15
  obtain ⟨n17, q_n17⟩ := and_e q_n16
  obtain ⟨n18, q_n18⟩ := and_e q_n17
  obtain ⟨n19, q_n19⟩ := and_e q_n18
  obtain ⟨n20, q_n20⟩ := and_e q_n19
  obtain ⟨n21, q_n21⟩ := and_e q_n20
  obtain ⟨n22, q_n22⟩ := and_e q_n21
  obtain ⟨n23, q_n23⟩ := and_e q_n22
  obtain ⟨n24, q_n24⟩ := and_e q_n23
  obtain ⟨n25, q_n25⟩ := and_e q_n24
  obtain ⟨n26, q_n26⟩ := and_e q_n25
  obtain ⟨n27, q_n27⟩ := and_e q_n26
  obtain ⟨n28, q_n28⟩ := and_e q_n27
  obtain ⟨n29, q_n29⟩ := and_e q_n28
  obtain ⟨n30, q_n30⟩ := and_e q_n29
  obtain ⟨n31, q_n31⟩ := and_e q_n30
  obtain ⟨n32, q_n32⟩ := and_e q_n31
  obtain ⟨n33, q_n33⟩ := and_e q_n32
  obtain ⟨n34, q_n34⟩ := and_e q_n33
  obtain ⟨n35, q_n35⟩ := and_e q_n34
  obtain ⟨n36, q_n36⟩ := and_e q_n35
  obtain ⟨n37, q_n37⟩ := and_e q_n36
  obtain ⟨n38, q_n38⟩ := and_e q_n37
  obtain ⟨n39, q_n39⟩ := and_e q_n38
  obtain ⟨n40, q_n40⟩ := and_e q_n39
  obtain ⟨n41, q_n41⟩ := and_e q_n40
  obtain ⟨n42, q_n42⟩ := and_e q_n41
  obtain ⟨n43, q_n43⟩ := and_e q_n42
  obtain ⟨n44, q_n44⟩ := and_e q_n43
  obtain ⟨n45, q_n45⟩ := and_e q_n44
  obtain ⟨n46, q_n46⟩ := and_e q_n45
  have n47 := q_n46
  obtain ⟨r0, q_r0⟩ := and_e (Cond.before_iff.mp (show rest_1_c.before _ s = true from hrest))
  obtain ⟨r1, q_r1⟩ := and_e q_r0
  obtain ⟨r2, q_r2⟩ := and_e q_r1
  obtain ⟨r3, q_r3⟩ := and_e q_r2
  obtain ⟨r4, q_r4⟩ := and_e q_r3
  obtain ⟨r5, q_r5⟩ := and_e q_r4
  obtain ⟨r6, q_r6⟩ := and_e q_r5
  obtain ⟨r7, q_r7⟩ := and_e q_r6
  obtain ⟨r8, q_r8⟩ := and_e q_r7
  have r9 := q_r8
  obtain ⟨cz, ecz⟩ := is_v r1
  have SC := Sta.start ecz (Or.inl (Cond.before_iff.mpr r0))
  have hcz : ¬ cz = 0 := gotF (Cond.eq_ints ecz (Term.int_eval _)) (not_v r2)
  have hCH := CHv.start (EL := own_EL) (own_el hw) hcalls.1 (show Jvm.Lit.compactW.before _ s = true from Cond.before_iff.mpr r2) (w10 hw) (w9 hw)
  obtain ⟨ac, ea⟩ := arr_v n2
  obtain ⟨clc, Av⟩ := Arr.start ea n2
  have Sv := Sta.start ea (Or.inr ⟨(w21 hw), (w22 hw)⟩)
  obtain ⟨z1, z2⟩ := len_at (eq_at n3) ea (Av.fin (Vm.Alike.refl _))
  have zv := len_sz z1 z2
  have hv0 := (elem_in (eq_at n5) ea (Term.int_eval _) Av.1).2
  have hv1 := (elem_in (eq_at n8) ea (Term.int_eval _) Av.1).2
  have hv2 := (elem_in (eq_at n15) ea (Term.int_eval _) Av.1).2
  obtain ⟨m0, em0⟩ := exa_v n1
  have Em0 := Exa.start em0 n1
  have Sm0 := Sta.start em0 (Or.inr ⟨(w5 hw), (w6 hw)⟩)
  have Fm0 := Fld.start ((fld_at em0).symm.trans (eq_at n4))
  obtain ⟨m1, em1⟩ := exa_v n6
  have Em1 := Exa.start em1 n6
  have Sm1 := Sta.start em1 (Or.inr ⟨(w5 hw), (w39 hw)⟩)
  have Fm1 := Fld.start ((fld_at em1).symm.trans (eq_at n7))
  obtain ⟨m2, em2⟩ := exa_v n13
  have Em2 := Exa.start em2 n13
  have Sm2 := Sta.start em2 (Or.inr ⟨(w5 hw), (w53 hw)⟩)
  have Fm2 := Fld.start ((fld_at em2).symm.trans (eq_at n14))
  obtain ⟨d0, ed0⟩ := exa_v n0
  have Ed0 := Exa.start ed0 n0
  have Sd0 := Sta.start ed0 (Or.inr ⟨(w1 hw), (w2 hw)⟩)
  obtain ⟨x0, ex0⟩ := exa_v n9
  have F0 := Fld.start ((fld_at ed0).symm.trans ex0)
  have E0x := Exa.start ex0 n9
  have C0x := Fld.start ((fld_at ex0).symm.trans (eq_at n10))
  obtain ⟨t0, et0⟩ := arr_v n11
  obtain ⟨ct0, At0⟩ := Arr.start et0 n11
  have V0x := Fld.start ((fld_at ex0).symm.trans et0)
  obtain ⟨u0, v0⟩ := len_at (eq_at n12) et0 (At0.fin (Vm.Alike.refl _))
  have B0x : Arv s s.heap t0 ct0.cls .byte (9 : Int32) [.int 70, .int 79, .int 82, .int 32, .int 83, .int 72, .int 65, .int 82, .int 69] (.int 0) := Arv.start hfit At0 v0 u0 (by decide) (by decide) ⟨(elem_in (eq_at n21) et0 (Term.int_eval _) At0.1).2, (elem_in (eq_at n22) et0 (Term.int_eval _) At0.1).2, (elem_in (eq_at n23) et0 (Term.int_eval _) At0.1).2, (elem_in (eq_at n24) et0 (Term.int_eval _) At0.1).2, (elem_in (eq_at n25) et0 (Term.int_eval _) At0.1).2, (elem_in (eq_at n26) et0 (Term.int_eval _) At0.1).2, (elem_in (eq_at n27) et0 (Term.int_eval _) At0.1).2, (elem_in (eq_at n28) et0 (Term.int_eval _) At0.1).2, (elem_in (eq_at n29) et0 (Term.int_eval _) At0.1).2, trivial⟩
  have SG0 : Strg s s.heap x0 t0 ct0.cls own_fs := ⟨E0x, V0x, C0x, B0x, by decide, by decide⟩
  obtain ⟨d1, ed1⟩ := exa_v n16
  have Ed1 := Exa.start ed1 n16
  have Sd1 := Sta.start ed1 (Or.inr ⟨(w1 hw), (w55 hw)⟩)
  obtain ⟨x1, ex1⟩ := exa_v n17
  have F1 := Fld.start ((fld_at ed1).symm.trans ex1)
  have E1x := Exa.start ex1 n17
  have C1x := Fld.start ((fld_at ex1).symm.trans (eq_at n18))
  obtain ⟨t1, et1⟩ := arr_v n19
  obtain ⟨ct1, At1⟩ := Arr.start et1 n19
  have V1x := Fld.start ((fld_at ex1).symm.trans et1)
  obtain ⟨u1, v1⟩ := len_at (eq_at n20) et1 (At1.fin (Vm.Alike.refl _))
  have B1x : Arv s s.heap t1 ct1.cls .byte (18 : Int32) [.int 76, .int 79, .int 67, .int 75, .int 32, .int 73, .int 78, .int 32, .int 83, .int 72, .int 65, .int 82, .int 69, .int 32, .int 77, .int 79, .int 68, .int 69] (.int 0) := Arv.start hfit At1 v1 u1 (by decide) (by decide) ⟨(elem_in (eq_at n30) et1 (Term.int_eval _) At1.1).2, (elem_in (eq_at n31) et1 (Term.int_eval _) At1.1).2, (elem_in (eq_at n32) et1 (Term.int_eval _) At1.1).2, (elem_in (eq_at n33) et1 (Term.int_eval _) At1.1).2, (elem_in (eq_at n34) et1 (Term.int_eval _) At1.1).2, (elem_in (eq_at n35) et1 (Term.int_eval _) At1.1).2, (elem_in (eq_at n36) et1 (Term.int_eval _) At1.1).2, (elem_in (eq_at n37) et1 (Term.int_eval _) At1.1).2, (elem_in (eq_at n38) et1 (Term.int_eval _) At1.1).2, (elem_in (eq_at n39) et1 (Term.int_eval _) At1.1).2, (elem_in (eq_at n40) et1 (Term.int_eval _) At1.1).2, (elem_in (eq_at n41) et1 (Term.int_eval _) At1.1).2, (elem_in (eq_at n42) et1 (Term.int_eval _) At1.1).2, (elem_in (eq_at n43) et1 (Term.int_eval _) At1.1).2, (elem_in (eq_at n44) et1 (Term.int_eval _) At1.1).2, (elem_in (eq_at n45) et1 (Term.int_eval _) At1.1).2, (elem_in (eq_at n46) et1 (Term.int_eval _) At1.1).2, (elem_in (eq_at n47) et1 (Term.int_eval _) At1.1).2, trivial⟩
  have SG1 : Strg s s.heap x1 t1 ct1.cls own_lm := ⟨E1x, V1x, C1x, B1x, by decide, by decide⟩
  obtain ⟨n, o, h1, h2, h3, _, L, rfl, hQ, -, hq⟩ := rm0 l s _ hw tables_1 s.heap p1 p2 cz d0 d1 m0 m1 m2 x0 x1 t0 t1 ac _ _ clc s.heap.size SC hcz Sv Av zv hv0 hv1 hv2 Sd0 Sd1 Sm0 Sm1 Sm2 Ed0 Ed1 Em0 Em1 Em2 Fm0 Fm1 Fm2 F0 F1 SG0 SG1 (Old.start s) p e ha hc hk s m _ below hf ((Spec.applies_iff_loose hf).mp happ).1 ⟨rfl, State.Warmed39.refl s, rfl, hCH⟩ trivial
  obtain ⟨rfl, N⟩ := hQ
  exact ⟨n, _, h1, h2, h3, hpost _ _ _ _ _ _ ⟨Cond.after_iff.mpr rfl, Cond.after_iff.mpr (eq_i res_at (Term.int_eval (1)) rfl), trivial⟩ ⟨hq.1, hq.2.1, hq.2.2.1, (hq.2.2.2.sift fun y hy => Or.inr (N y hy)).mono (by decide) (by decide)⟩⟩
theorem main_1_1 : Claimed_1_1 := comes_1 fun _ _ _ _ _ _ h hF => ⟨h.1, hF⟩
theorem main_1_2 : Claimed_1_2 := comes_1 fun _ _ _ _ _ _ h hF => ⟨h.2.1, hF⟩
end Jvm.Pilot.@@N@@
namespace Jvm.Pilot.@@N@@
open Jvm Jvm.ClassFile Sem Op Lib Jvm.Free Jvm.Stand Jvm.Pilot.@@N@@.Jvm.D
/-! MADE BY PROGRAM (witnessworld.py) out of the Statement's table words and the real class files: 22 classes; the members and pool entries that the words name. The judged class is class 1, her method 1. -/
namespace start1
open Jvm.ClassFile
def u (s : String) : CpInfo := .utf8 (stringToUtf16 s)
/-- a pool by its gaps: so many unusable entries, then the entry; so many at the end -/
def gap : Nat → List CpInfo → List CpInfo
  | 0, r => r
  | n + 1, r => .unusable :: gap n r
def poolList (es : List (Nat × CpInfo)) (last : Nat) : List CpInfo := es.foldr (fun e r => gap e.1 (e.2 :: r)) (gap last [])
def pool (es : List (Nat × CpInfo)) (last : Nat) : Array CpInfo := ⟨poolList es last⟩
def fileOf (pool : Array CpInfo) (this : Nat) (attrs : Array Attribute := #[]) (ms : Array MethodInfo := #[]) (fl : Nat := 33) (sup : Nat := 0) (ifs : Array Nat := #[]) (fds : Array FieldInfo := #[]) : ClassFile where
  minorVersion := 0
  majorVersion := 65
  constantPool := pool
  accessFlags := fl
  thisClass := this
  superClass := sup
  interfaces := ifs
  fields := fds
  methods := ms
  attributes := attrs
def plain (name : String) (sup : Option ClassId) : Class where
  name := name
  kind := .ordinary
  loader := none
  accessFlags := 33
  super := sup
  interfaces := #[]
  cf := none
  fields := #[]
  methods := #[]
  instanceTypes := #[]
  staticTypes := #[]
  resolved := #[]
  callSites := []
  init := .initialized
  statics := none
  mirror := none

def pool0 : Array CpInfo := pool [(5, u "<init>"), (0, u "()V"), (1, .class_ 10), (1, u "java/lang/Object")] 113

def k0m0 : Method := { name := "<init>", desc := "()V", sig := { parameters := [], returnType := none }, accessFlags := 1, code := none }
/-- java/lang/Object -/
def k0 : Class := { plain "java/lang/Object" none with
  accessFlags := 33
  interfaces := #[]
  cf := some (fileOf pool0 8 #[] #[{ accessFlags := 1, nameIndex := 5, descriptorIndex := 6, attributes := #[] }] 33 0 #[] #[])
  fields := #[]
  methods := #[k0m0]
  instanceTypes := #[]
  staticTypes := #[]
  resolved := Array.replicate 124 none
  statics := none }

def pool1 : Array CpInfo := pool [(2, .class_ 4), (1, u "java/lang/Object"), (0, u "<init>"), (0, u "()V"), (0, .fieldref 8 9), (0, .class_ 10), (0, .nameAndType 11 12), (0, u "com/example/schenley/schenley/Database"), (0, u "MARIADB"), (0, u "Lcom/example/schenley/schenley/Database;"), (0, .fieldref 8 14), (0, .nameAndType 15 12), (0, u "POSTGRESQL"), (0, .integer 2147483647), (0, .fieldref 18 19), (0, .class_ 20), (0, .nameAndType 21 22), (0, u "com/example/schenley/schenley/LockMode"), (0, u "EXCLUSIVE"), (0, u "Lcom/example/schenley/schenley/LockMode;"), (0, .fieldref 18 24), (0, .nameAndType 25 22), (0, u "SHARED"), (0, .fieldref 18 27), (0, .nameAndType 28 22), (0, u "FORCE_INCREMENT"), (0, .string 30), (0, u "LOCK IN SHARE MODE"), (0, .string 32), (0, u "FOR SHARE"), (0, .string 34), (0, u "FOR UPDATE"), (0, .methodref 8 36), (0, .nameAndType 37 38), (0, u "lockClause"), (0, u "(Lcom/example/schenley/schenley/LockMode;)Ljava/lang/String;"), (0, .methodref 40 41), (0, .class_ 42), (0, .nameAndType 43 44), (0, u "java/lang/String"), (0, u "equals"), (0, u "(Ljava/lang/Object;)Z"), (0, .class_ 46), (0, u "com/example/schenley/schenley/DatabaseLockClausePinLaw"), (2, u "law"), (0, u "(II)Z")] 3

def k1m0 : Method := { name := "<init>", desc := "()V", sig := { parameters := [], returnType := none }, accessFlags := 1, code := none }
def k1c1 : Code := { maxStack := 2, maxLocals := 8, code := code, exceptionTable := #[], attributes := #[] }
def k1m1 : Method := { name := "law", desc := "(II)Z", sig := { parameters := [.int, .int], returnType := some .boolean }, accessFlags := 9, code := some k1c1 }
/-- com/example/schenley/schenley/DatabaseLockClausePinLaw -/
def k1 : Class := { plain "com/example/schenley/schenley/DatabaseLockClausePinLaw" (some 0) with
  accessFlags := 49
  interfaces := #[]
  cf := some (fileOf pool1 45 #[] #[{ accessFlags := 1, nameIndex := 5, descriptorIndex := 6, attributes := #[] }, { accessFlags := 9, nameIndex := 49, descriptorIndex := 50, attributes := #[] }] 49 2 #[] #[])
  fields := #[]
  methods := #[k1m0, k1m1]
  instanceTypes := #[]
  staticTypes := #[]
  resolved := Array.replicate 54 none
  statics := none }

def pool2 : Array CpInfo := pool [(1, .class_ 2), (0, u "java/lang/constant/Constable"), (0, .class_ 4), (0, u "java/lang/Object")] 6

/-- java/lang/constant/Constable -/
def k2 : Class := { plain "java/lang/constant/Constable" (some 0) with
  accessFlags := 1537
  interfaces := #[]
  cf := some (fileOf pool2 1 #[] #[] 1537 3 #[] #[])
  fields := #[]
  methods := #[]
  instanceTypes := #[]
  staticTypes := #[]
  resolved := Array.replicate 11 none
  statics := none }

def pool3 : Array CpInfo := pool [(1, .class_ 2), (0, u "java/lang/Comparable"), (0, .class_ 4), (0, u "java/lang/Object")] 7

/-- java/lang/Comparable -/
def k3 : Class := { plain "java/lang/Comparable" (some 0) with
  accessFlags := 1537
  interfaces := #[]
  cf := some (fileOf pool3 1 #[] #[] 1537 3 #[] #[])
  fields := #[]
  methods := #[]
  instanceTypes := #[]
  staticTypes := #[]
  resolved := Array.replicate 12 none
  statics := none }

def pool4 : Array CpInfo := pool [(1, .class_ 2), (0, u "java/io/Serializable"), (0, .class_ 4), (0, u "java/lang/Object")] 2

/-- java/io/Serializable -/
def k4 : Class := { plain "java/io/Serializable" (some 0) with
  accessFlags := 1537
  interfaces := #[]
  cf := some (fileOf pool4 1 #[] #[] 1537 3 #[] #[])
  fields := #[]
  methods := #[]
  instanceTypes := #[]
  staticTypes := #[]
  resolved := Array.replicate 7 none
  statics := none }

def pool5 : Array CpInfo := pool [(2, .class_ 4), (1, u "java/lang/Enum"), (0, u "name"), (0, u "Ljava/lang/String;"), (0, .fieldref 2 8), (0, .nameAndType 9 10), (0, u "ordinal"), (0, u "I"), (1, .class_ 14), (1, u "java/lang/Object"), (4, u "hash"), (86, .class_ 108), (1, u "java/lang/Enum$EnumDesc"), (2, .class_ 112), (0, u "java/lang/constant/Constable"), (0, .class_ 114), (0, u "java/lang/Comparable"), (0, .class_ 116), (0, u "java/io/Serializable"), (9, u "()I")] 77

def k5c0 : Code := { maxStack := 1, maxLocals := 1, code := jdk_37_method_2_code, exceptionTable := #[], attributes := #[] }
def k5m0 : Method := { name := "ordinal", desc := "()I", sig := { parameters := [], returnType := some .int }, accessFlags := 17, code := some k5c0 }
/-- java/lang/Enum -/
def k5 : Class := { plain "java/lang/Enum" (some 0) with
  accessFlags := 1057
  interfaces := #[2, 3, 4]
  cf := some (fileOf pool5 2 #[.nestMembers #[106]] #[{ accessFlags := 17, nameIndex := 9, descriptorIndex := 126, attributes := #[] }] 1057 12 #[111, 113, 115] #[{ accessFlags := 18, nameIndex := 5, descriptorIndex := 6, attributes := #[] }, { accessFlags := 18, nameIndex := 9, descriptorIndex := 10, attributes := #[] }, { accessFlags := 2, nameIndex := 19, descriptorIndex := 10, attributes := #[] }])
  fields := #[{ name := "name", type := (.object "java/lang/String"), accessFlags := 18, slot := 0, constantValue := 0 }, { name := "ordinal", type := .int, accessFlags := 18, slot := 1, constantValue := 0 }, { name := "hash", type := .int, accessFlags := 2, slot := 2, constantValue := 0 }]
  methods := #[k5m0]
  instanceTypes := #[(.object "java/lang/String"), .int, .int]
  staticTypes := #[]
  resolved := Array.replicate 204 none
  statics := none }

def pool6 : Array CpInfo := pool [(1, .class_ 2), (0, u "com/example/schenley/schenley/Database"), (2, u "POSTGRESQL"), (0, u "Lcom/example/schenley/schenley/Database;"), (2, u "MARIADB"), (2, u "$VALUES"), (0, u "[Lcom/example/schenley/schenley/Database;"), (6, .class_ 22), (1, u "java/lang/Enum"), (13, u "texts"), (0, u "Lcom/example/schenley/schenley/StatementTexts;"), (2, u "productName"), (0, u "Ljava/lang/String;"), (2, u "quote"), (0, u "C"), (0, .fieldref 1 47), (0, .nameAndType 48 41), (0, u "sharedLockClause"), (48, .class_ 99), (1, u "com/example/schenley/schenley/Database$Kind"), (24, .fieldref 125 126), (0, .class_ 127), (0, .nameAndType 128 129), (0, u "com/example/schenley/schenley/Database$3"), (0, u "$SwitchMap$com$example$schenley$schenley$LockMode"), (0, u "[I"), (0, .methodref 131 132), (0, .class_ 133), (0, .nameAndType 134 135), (0, u "com/example/schenley/schenley/LockMode"), (0, u "ordinal"), (0, u "()I"), (5, .string 142), (0, u "FOR UPDATE"), (40, u "NANOS_A_MILLI"), (0, u "J"), (66, u "LOCKS"), (0, u "Lcom/example/schenley/schenley/Identifier;"), (5, u "FENCING"), (6, u "RESOURCE"), (5, u "OWNER"), (5, u "LEASE_END"), (16, u "JOBS"), (2, u "QUEUE"), (2, u "PAYLOAD"), (7, u "JOB_ID"), (6, u "lockClause"), (0, u "(Lcom/example/schenley/schenley/LockMode;)Ljava/lang/String;"), (19, u "FENCINGS"), (126, .class_ 464), (0, u "com/example/schenley/schenley/Database$1"), (8, .class_ 474), (0, u "com/example/schenley/schenley/Database$2"), (24, u "LOCKS_BY_OWNER"), (14, u "JOBS_BY_QUEUE"), (0, u "STATEMENT_MARGIN_MILLIS"), (1, u "LOCK_TIMEOUT"), (2, u "STATEMENT_TIMEOUT"), (2, u "NO_WAIT_LOCK_MILLIS"), (2, u "MAX_NAME_LENGTH"), (0, u "I"), (75, .class_ 604), (0, u "com/example/schenley/schenley/Database$WaitSettings")] 117

def k6c0 : Code := { maxStack := 4, maxLocals := 2, code := prog_1_method_7_code, exceptionTable := #[], attributes := #[] }
def k6m0 : Method := { name := "lockClause", desc := "(Lcom/example/schenley/schenley/LockMode;)Ljava/lang/String;", sig := { parameters := [(.object "com/example/schenley/schenley/LockMode")], returnType := some (.object "java/lang/String") }, accessFlags := 0, code := some k6c0 }
/-- com/example/schenley/schenley/Database -/
def k6 : Class := { plain "com/example/schenley/schenley/Database" (some 5) with
  accessFlags := 17441
  interfaces := #[]
  cf := some (fileOf pool6 1 #[.nestMembers #[125, 603, 97, 473, 463]] #[{ accessFlags := 0, nameIndex := 315, descriptorIndex := 316, attributes := #[] }] 17441 20 #[] #[{ accessFlags := 16409, nameIndex := 5, descriptorIndex := 6, attributes := #[] }, { accessFlags := 16409, nameIndex := 9, descriptorIndex := 6, attributes := #[] }, { accessFlags := 26, nameIndex := 515, descriptorIndex := 184, attributes := #[] }, { accessFlags := 26, nameIndex := 517, descriptorIndex := 41, attributes := #[] }, { accessFlags := 26, nameIndex := 520, descriptorIndex := 41, attributes := #[] }, { accessFlags := 26, nameIndex := 523, descriptorIndex := 184, attributes := #[] }, { accessFlags := 26, nameIndex := 183, descriptorIndex := 184, attributes := #[] }, { accessFlags := 25, nameIndex := 526, descriptorIndex := 527, attributes := #[] }, { accessFlags := 26, nameIndex := 251, descriptorIndex := 252, attributes := #[] }, { accessFlags := 26, nameIndex := 265, descriptorIndex := 252, attributes := #[] }, { accessFlags := 26, nameIndex := 271, descriptorIndex := 252, attributes := #[] }, { accessFlags := 26, nameIndex := 277, descriptorIndex := 252, attributes := #[] }, { accessFlags := 26, nameIndex := 258, descriptorIndex := 252, attributes := #[] }, { accessFlags := 26, nameIndex := 499, descriptorIndex := 252, attributes := #[] }, { accessFlags := 26, nameIndex := 336, descriptorIndex := 252, attributes := #[] }, { accessFlags := 26, nameIndex := 294, descriptorIndex := 252, attributes := #[] }, { accessFlags := 26, nameIndex := 308, descriptorIndex := 252, attributes := #[] }, { accessFlags := 26, nameIndex := 297, descriptorIndex := 252, attributes := #[] }, { accessFlags := 26, nameIndex := 300, descriptorIndex := 252, attributes := #[] }, { accessFlags := 26, nameIndex := 514, descriptorIndex := 252, attributes := #[] }, { accessFlags := 18, nameIndex := 40, descriptorIndex := 41, attributes := #[] }, { accessFlags := 18, nameIndex := 44, descriptorIndex := 45, attributes := #[] }, { accessFlags := 18, nameIndex := 48, descriptorIndex := 41, attributes := #[] }, { accessFlags := 18, nameIndex := 36, descriptorIndex := 37, attributes := #[] }, { accessFlags := 4122, nameIndex := 12, descriptorIndex := 13, attributes := #[] }])
  fields := #[{ name := "POSTGRESQL", type := (.object "com/example/schenley/schenley/Database"), accessFlags := 16409, slot := 0, constantValue := 0 }, { name := "MARIADB", type := (.object "com/example/schenley/schenley/Database"), accessFlags := 16409, slot := 1, constantValue := 0 }, { name := "STATEMENT_MARGIN_MILLIS", type := .long, accessFlags := 26, slot := 2, constantValue := 0 }, { name := "LOCK_TIMEOUT", type := (.object "java/lang/String"), accessFlags := 26, slot := 3, constantValue := 0 }, { name := "STATEMENT_TIMEOUT", type := (.object "java/lang/String"), accessFlags := 26, slot := 4, constantValue := 0 }, { name := "NO_WAIT_LOCK_MILLIS", type := .long, accessFlags := 26, slot := 5, constantValue := 0 }, { name := "NANOS_A_MILLI", type := .long, accessFlags := 26, slot := 6, constantValue := 0 }, { name := "MAX_NAME_LENGTH", type := .int, accessFlags := 25, slot := 7, constantValue := 0 }, { name := "LOCKS", type := (.object "com/example/schenley/schenley/Identifier"), accessFlags := 26, slot := 8, constantValue := 0 }, { name := "RESOURCE", type := (.object "com/example/schenley/schenley/Identifier"), accessFlags := 26, slot := 9, constantValue := 0 }, { name := "OWNER", type := (.object "com/example/schenley/schenley/Identifier"), accessFlags := 26, slot := 10, constantValue := 0 }, { name := "LEASE_END", type := (.object "com/example/schenley/schenley/Identifier"), accessFlags := 26, slot := 11, constantValue := 0 }, { name := "FENCING", type := (.object "com/example/schenley/schenley/Identifier"), accessFlags := 26, slot := 12, constantValue := 0 }, { name := "LOCKS_BY_OWNER", type := (.object "com/example/schenley/schenley/Identifier"), accessFlags := 26, slot := 13, constantValue := 0 }, { name := "FENCINGS", type := (.object "com/example/schenley/schenley/Identifier"), accessFlags := 26, slot := 14, constantValue := 0 }, { name := "JOBS", type := (.object "com/example/schenley/schenley/Identifier"), accessFlags := 26, slot := 15, constantValue := 0 }, { name := "JOB_ID", type := (.object "com/example/schenley/schenley/Identifier"), accessFlags := 26, slot := 16, constantValue := 0 }, { name := "QUEUE", type := (.object "com/example/schenley/schenley/Identifier"), accessFlags := 26, slot := 17, constantValue := 0 }, { name := "PAYLOAD", type := (.object "com/example/schenley/schenley/Identifier"), accessFlags := 26, slot := 18, constantValue := 0 }, { name := "JOBS_BY_QUEUE", type := (.object "com/example/schenley/schenley/Identifier"), accessFlags := 26, slot := 19, constantValue := 0 }, { name := "productName", type := (.object "java/lang/String"), accessFlags := 18, slot := 3, constantValue := 0 }, { name := "quote", type := .char, accessFlags := 18, slot := 4, constantValue := 0 }, { name := "sharedLockClause", type := (.object "java/lang/String"), accessFlags := 18, slot := 5, constantValue := 0 }, { name := "texts", type := (.object "com/example/schenley/schenley/StatementTexts"), accessFlags := 18, slot := 6, constantValue := 0 }, { name := "$VALUES", type := (.array (.object "com/example/schenley/schenley/Database")), accessFlags := 4122, slot := 20, constantValue := 0 }]
  methods := #[k6m0]
  instanceTypes := #[(.object "java/lang/String"), .int, .int, (.object "java/lang/String"), .char, (.object "java/lang/String"), (.object "com/example/schenley/schenley/StatementTexts")]
  staticTypes := #[(.object "com/example/schenley/schenley/Database"), (.object "com/example/schenley/schenley/Database"), .long, (.object "java/lang/String"), (.object "java/lang/String"), .long, .long, .int, (.object "com/example/schenley/schenley/Identifier"), (.object "com/example/schenley/schenley/Identifier"), (.object "com/example/schenley/schenley/Identifier"), (.object "com/example/schenley/schenley/Identifier"), (.object "com/example/schenley/schenley/Identifier"), (.object "com/example/schenley/schenley/Identifier"), (.object "com/example/schenley/schenley/Identifier"), (.object "com/example/schenley/schenley/Identifier"), (.object "com/example/schenley/schenley/Identifier"), (.object "com/example/schenley/schenley/Identifier"), (.object "com/example/schenley/schenley/Identifier"), (.object "com/example/schenley/schenley/Identifier"), (.array (.object "com/example/schenley/schenley/Database"))]
  resolved := Array.replicate 722 none
  statics := some 0 }

def pool7 : Array CpInfo := pool [(1, .class_ 2), (0, u "com/example/schenley/schenley/LockMode"), (2, u "EXCLUSIVE"), (0, u "Lcom/example/schenley/schenley/LockMode;"), (2, u "SHARED"), (2, u "FORCE_INCREMENT"), (2, u "$VALUES"), (0, u "[Lcom/example/schenley/schenley/LockMode;"), (6, .class_ 25), (1, u "java/lang/Enum")] 25

/-- com/example/schenley/schenley/LockMode -/
def k7 : Class := { plain "com/example/schenley/schenley/LockMode" (some 5) with
  accessFlags := 16433
  interfaces := #[]
  cf := some (fileOf pool7 1 #[] #[] 16433 23 #[] #[{ accessFlags := 16409, nameIndex := 5, descriptorIndex := 6, attributes := #[] }, { accessFlags := 16409, nameIndex := 9, descriptorIndex := 6, attributes := #[] }, { accessFlags := 16409, nameIndex := 12, descriptorIndex := 6, attributes := #[] }, { accessFlags := 4122, nameIndex := 15, descriptorIndex := 16, attributes := #[] }])
  fields := #[{ name := "EXCLUSIVE", type := (.object "com/example/schenley/schenley/LockMode"), accessFlags := 16409, slot := 0, constantValue := 0 }, { name := "SHARED", type := (.object "com/example/schenley/schenley/LockMode"), accessFlags := 16409, slot := 1, constantValue := 0 }, { name := "FORCE_INCREMENT", type := (.object "com/example/schenley/schenley/LockMode"), accessFlags := 16409, slot := 2, constantValue := 0 }, { name := "$VALUES", type := (.array (.object "com/example/schenley/schenley/LockMode")), accessFlags := 4122, slot := 3, constantValue := 0 }]
  methods := #[]
  instanceTypes := #[(.object "java/lang/String"), .int, .int]
  staticTypes := #[(.object "com/example/schenley/schenley/LockMode"), (.object "com/example/schenley/schenley/LockMode"), (.object "com/example/schenley/schenley/LockMode"), (.array (.object "com/example/schenley/schenley/LockMode"))]
  resolved := Array.replicate 51 none
  statics := some 1 }

def pool8 : Array CpInfo := pool [(2, .class_ 4), (1, u "java/lang/CharSequence"), (42, .class_ 48), (0, u "java/lang/CharSequence$1CodePointIterator"), (10, .class_ 60), (0, u "java/lang/CharSequence$1CharIterator"), (5, .class_ 67), (0, u "java/lang/Object")] 63

/-- java/lang/CharSequence -/
def k8 : Class := { plain "java/lang/CharSequence" (some 0) with
  accessFlags := 1537
  interfaces := #[]
  cf := some (fileOf pool8 2 #[.nestMembers #[47, 59]] #[] 1537 66 #[] #[])
  fields := #[]
  methods := #[]
  instanceTypes := #[]
  staticTypes := #[]
  resolved := Array.replicate 131 none
  statics := none }

def pool9 : Array CpInfo := pool [(1, .class_ 2), (0, u "java/lang/constant/ConstantDesc"), (0, .class_ 4), (0, u "java/lang/Object")] 32

/-- java/lang/constant/ConstantDesc -/
def k9 : Class := { plain "java/lang/constant/ConstantDesc" (some 0) with
  accessFlags := 1537
  interfaces := #[]
  cf := some (fileOf pool9 1 #[] #[] 1537 3 #[] #[])
  fields := #[]
  methods := #[]
  instanceTypes := #[]
  staticTypes := #[]
  resolved := Array.replicate 37 none
  statics := none }

def pool10 : Array CpInfo := pool [(2, .class_ 4), (1, u "java/lang/Object"), (0, u "<init>"), (0, u "()V"), (2, .fieldref 10 11), (0, .class_ 12), (0, .nameAndType 13 14), (0, u "java/lang/String"), (0, u "value"), (0, u "[B"), (0, .fieldref 10 16), (0, .nameAndType 17 18), (0, u "coder"), (0, u "B"), (2, u "hash"), (0, u "I"), (2, u "hashIsZero"), (0, u "Z"), (11, .fieldref 10 39), (0, .nameAndType 40 26), (0, u "COMPACT_STRINGS"), (66, .class_ 109), (1, u "java/lang/StringLatin1"), (431, .methodref 107 542), (0, .nameAndType 543 544), (0, u "equals"), (0, u "([B[B)Z"), (28, u "(Ljava/lang/Object;)Z"), (1, .class_ 576), (0, u "java/lang/CharSequence"), (22, u "CASE_INSENSITIVE_ORDER"), (0, u "Ljava/util/Comparator;"), (500, u "serialPersistentFields"), (0, u "[Ljava/io/ObjectStreamField;"), (0, .class_ 1104), (0, u "java/lang/String$CaseInsensitiveComparator"), (1, .class_ 1107), (0, u "java/io/Serializable"), (0, .class_ 1109), (0, u "java/lang/Comparable"), (0, .class_ 1111), (0, u "java/lang/constant/Constable"), (0, .class_ 1113), (0, u "java/lang/constant/ConstantDesc"), (2, u "serialVersionUID"), (0, u "J"), (3, u "REPL"), (0, u "C"), (2, u "LATIN1"), (1, u "UTF16")] 323

def k10m0 : Method := { name := "<init>", desc := "()V", sig := { parameters := [], returnType := none }, accessFlags := 1, code := none }
def k10c1 : Code := { maxStack := 2, maxLocals := 3, code := jdk_42_method_66_code, exceptionTable := #[], attributes := #[] }
def k10m1 : Method := { name := "equals", desc := "(Ljava/lang/Object;)Z", sig := { parameters := [(.object "java/lang/Object")], returnType := some .boolean }, accessFlags := 1, code := some k10c1 }
/-- java/lang/String -/
def k10 : Class := { plain "java/lang/String" (some 0) with
  accessFlags := 49
  interfaces := #[4, 3, 8, 2, 9]
  cf := some (fileOf pool10 10 #[.nestMembers #[1103]] #[{ accessFlags := 1, nameIndex := 5, descriptorIndex := 6, attributes := #[] }, { accessFlags := 1, nameIndex := 543, descriptorIndex := 573, attributes := #[] }] 49 2 #[1106, 1108, 575, 1110, 1112] #[{ accessFlags := 18, nameIndex := 13, descriptorIndex := 14, attributes := #[] }, { accessFlags := 18, nameIndex := 17, descriptorIndex := 18, attributes := #[] }, { accessFlags := 2, nameIndex := 21, descriptorIndex := 22, attributes := #[] }, { accessFlags := 2, nameIndex := 25, descriptorIndex := 26, attributes := #[] }, { accessFlags := 26, nameIndex := 1116, descriptorIndex := 1117, attributes := #[] }, { accessFlags := 24, nameIndex := 40, descriptorIndex := 26, attributes := #[] }, { accessFlags := 26, nameIndex := 1101, descriptorIndex := 1102, attributes := #[] }, { accessFlags := 26, nameIndex := 1121, descriptorIndex := 1122, attributes := #[] }, { accessFlags := 25, nameIndex := 599, descriptorIndex := 600, attributes := #[] }, { accessFlags := 24, nameIndex := 1125, descriptorIndex := 18, attributes := #[] }, { accessFlags := 24, nameIndex := 1127, descriptorIndex := 18, attributes := #[] }])
  fields := #[{ name := "value", type := (.array .byte), accessFlags := 18, slot := 0, constantValue := 0 }, { name := "coder", type := .byte, accessFlags := 18, slot := 1, constantValue := 0 }, { name := "hash", type := .int, accessFlags := 2, slot := 2, constantValue := 0 }, { name := "hashIsZero", type := .boolean, accessFlags := 2, slot := 3, constantValue := 0 }, { name := "serialVersionUID", type := .long, accessFlags := 26, slot := 0, constantValue := 0 }, { name := "COMPACT_STRINGS", type := .boolean, accessFlags := 24, slot := 1, constantValue := 0 }, { name := "serialPersistentFields", type := (.array (.object "java/io/ObjectStreamField")), accessFlags := 26, slot := 2, constantValue := 0 }, { name := "REPL", type := .char, accessFlags := 26, slot := 3, constantValue := 0 }, { name := "CASE_INSENSITIVE_ORDER", type := (.object "java/util/Comparator"), accessFlags := 25, slot := 4, constantValue := 0 }, { name := "LATIN1", type := .byte, accessFlags := 24, slot := 5, constantValue := 0 }, { name := "UTF16", type := .byte, accessFlags := 24, slot := 6, constantValue := 0 }]
  methods := #[k10m0, k10m1]
  instanceTypes := #[(.array .byte), .byte, .int, .boolean]
  staticTypes := #[.long, .boolean, (.array (.object "java/io/ObjectStreamField")), .char, (.object "java/util/Comparator"), .byte, .byte]
  resolved := Array.replicate 1451 none
  statics := some 2 }

def pool11 : Array CpInfo := pool [(1, .class_ 2), (0, u "com/example/schenley/schenley/Database"), (21, .class_ 26), (1, u "com/example/schenley/schenley/Database$1")] 297

/-- com/example/schenley/schenley/Database$1 -/
def k11 : Class := { plain "com/example/schenley/schenley/Database$1" (some 6) with
  accessFlags := 16432
  interfaces := #[]
  cf := some (fileOf pool11 24 #[.nestHost 1] #[] 16432 1 #[] #[])
  fields := #[]
  methods := #[]
  instanceTypes := #[(.object "java/lang/String"), .int, .int, (.object "java/lang/String"), .char, (.object "java/lang/String"), (.object "com/example/schenley/schenley/StatementTexts")]
  staticTypes := #[]
  resolved := Array.replicate 324 none
  statics := none }

def pool12 : Array CpInfo := pool [(8, .class_ 10), (1, u "com/example/schenley/schenley/Database$3"), (0, u "$SwitchMap$com$example$schenley$schenley$LockMode"), (0, u "[I"), (23, u "$SwitchMap$com$example$schenley$schenley$LockWait$Kind"), (11, .class_ 49), (0, u "java/lang/Object"), (8, .class_ 59), (0, u "com/example/schenley/schenley/Database")] 5

/-- com/example/schenley/schenley/Database$3 -/
def k12 : Class := { plain "com/example/schenley/schenley/Database$3" (some 0) with
  accessFlags := 4128
  interfaces := #[]
  cf := some (fileOf pool12 8 #[.nestHost 58] #[] 4128 48 #[] #[{ accessFlags := 4120, nameIndex := 36, descriptorIndex := 12, attributes := #[] }, { accessFlags := 4120, nameIndex := 11, descriptorIndex := 12, attributes := #[] }])
  fields := #[{ name := "$SwitchMap$com$example$schenley$schenley$LockWait$Kind", type := (.array .int), accessFlags := 4120, slot := 0, constantValue := 0 }, { name := "$SwitchMap$com$example$schenley$schenley$LockMode", type := (.array .int), accessFlags := 4120, slot := 1, constantValue := 0 }]
  methods := #[]
  instanceTypes := #[]
  staticTypes := #[(.array .int), (.array .int)]
  resolved := Array.replicate 65 none
  statics := some 3 }

def pool13 : Array CpInfo := pool [(4, .class_ 6), (1, u "java/lang/Object"), (0, u "<init>"), (0, u "()V"), (5, .class_ 16), (1, u "java/lang/StringLatin1"), (104, u "$assertionsDisabled"), (0, u "Z"), (98, .class_ 223), (1, u "java/lang/StringLatin1$LinesSpliterator"), (57, u "equals"), (0, u "([B[B)Z"), (107, .class_ 391), (0, u "java/lang/StringLatin1$CharsSpliterator")] 3

def k13m0 : Method := { name := "<init>", desc := "()V", sig := { parameters := [], returnType := none }, accessFlags := 0, code := none }
def k13c1 : Code := { maxStack := 3, maxLocals := 3, code := jdk_43_method_13_code, exceptionTable := #[], attributes := #[] }
def k13m1 : Method := { name := "equals", desc := "([B[B)Z", sig := { parameters := [(.array .byte), (.array .byte)], returnType := some .boolean }, accessFlags := 9, code := some k13c1 }
/-- java/lang/StringLatin1 -/
def k13 : Class := { plain "java/lang/StringLatin1" (some 0) with
  accessFlags := 48
  interfaces := #[]
  cf := some (fileOf pool13 14 #[.nestMembers #[390, 221]] #[{ accessFlags := 0, nameIndex := 7, descriptorIndex := 8, attributes := #[] }, { accessFlags := 9, nameIndex := 281, descriptorIndex := 282, attributes := #[] }] 48 4 #[] #[{ accessFlags := 4120, nameIndex := 121, descriptorIndex := 122, attributes := #[] }])
  fields := #[{ name := "$assertionsDisabled", type := .boolean, accessFlags := 4120, slot := 0, constantValue := 0 }]
  methods := #[k13m0, k13m1]
  instanceTypes := #[]
  staticTypes := #[.boolean]
  resolved := Array.replicate 395 none
  statics := none }

def pool14 : Array CpInfo := pool [(2, .class_ 4), (1, u "com/example/schenley/schenley/Database"), (3, .class_ 10), (1, u "com/example/schenley/schenley/Database$2")] 243

/-- com/example/schenley/schenley/Database$2 -/
def k14 : Class := { plain "com/example/schenley/schenley/Database$2" (some 6) with
  accessFlags := 16432
  interfaces := #[]
  cf := some (fileOf pool14 8 #[.nestHost 2] #[] 16432 2 #[] #[])
  fields := #[]
  methods := #[]
  instanceTypes := #[(.object "java/lang/String"), .int, .int, (.object "java/lang/String"), .char, (.object "java/lang/String"), (.object "com/example/schenley/schenley/StatementTexts")]
  staticTypes := #[]
  resolved := Array.replicate 254 none
  statics := none }

def pool15 : Array CpInfo := pool [(2, .class_ 4), (1, u "java/lang/Object"), (0, u "<init>"), (0, u "()V"), (17, .class_ 26), (1, u "jdk/internal/util/Preconditions"), (28, .class_ 56), (0, u "jdk/internal/util/Preconditions$4"), (57, .class_ 115), (0, u "jdk/internal/util/Preconditions$1"), (7, u "SIOOBE_FORMATTER"), (0, u "Ljava/util/function/BiFunction;"), (0, .class_ 126), (0, u "jdk/internal/util/Preconditions$2"), (3, u "AIOOBE_FORMATTER"), (0, .class_ 132), (0, u "jdk/internal/util/Preconditions$3"), (3, u "IOOBE_FORMATTER")] 57

def k15m0 : Method := { name := "<init>", desc := "()V", sig := { parameters := [], returnType := none }, accessFlags := 1, code := none }
/-- jdk/internal/util/Preconditions -/
def k15 : Class := { plain "jdk/internal/util/Preconditions" (some 0) with
  accessFlags := 33
  interfaces := #[]
  cf := some (fileOf pool15 24 #[.nestMembers #[55, 131, 125, 114]] #[{ accessFlags := 1, nameIndex := 5, descriptorIndex := 6, attributes := #[] }] 33 2 #[] #[{ accessFlags := 25, nameIndex := 123, descriptorIndex := 124, attributes := #[] }, { accessFlags := 25, nameIndex := 130, descriptorIndex := 124, attributes := #[] }, { accessFlags := 25, nameIndex := 136, descriptorIndex := 124, attributes := #[] }])
  fields := #[{ name := "SIOOBE_FORMATTER", type := (.object "java/util/function/BiFunction"), accessFlags := 25, slot := 0, constantValue := 0 }, { name := "AIOOBE_FORMATTER", type := (.object "java/util/function/BiFunction"), accessFlags := 25, slot := 1, constantValue := 0 }, { name := "IOOBE_FORMATTER", type := (.object "java/util/function/BiFunction"), accessFlags := 25, slot := 2, constantValue := 0 }]
  methods := #[k15m0]
  instanceTypes := #[]
  staticTypes := #[(.object "java/util/function/BiFunction"), (.object "java/util/function/BiFunction"), (.object "java/util/function/BiFunction")]
  resolved := Array.replicate 194 none
  statics := some 4 }

def pool16 : Array CpInfo := pool [(9, u "<init>"), (6, .class_ 18), (1, u "java/lang/Object"), (0, u "()V"), (1, .class_ 23), (1, u "jdk/internal/util/ArraysSupport"), (0, u "LOG2_ARRAY_LONG_INDEX_SCALE"), (0, u "I"), (2, u "U"), (0, u "Ljdk/internal/misc/Unsafe;"), (8, u "BIG_ENDIAN"), (0, u "Z"), (8, u "LOG2_BYTE_BIT_SIZE"), (4, u "LOG2_ARRAY_INT_INDEX_SCALE"), (54, u "JLA"), (0, u "Ljdk/internal/access/JavaLangAccess;"), (11, u "LOG2_ARRAY_BOOLEAN_INDEX_SCALE"), (9, u "LOG2_ARRAY_BYTE_INDEX_SCALE"), (5, u "LOG2_ARRAY_CHAR_INDEX_SCALE"), (5, u "LOG2_ARRAY_SHORT_INDEX_SCALE"), (18, u "LOG2_ARRAY_FLOAT_INDEX_SCALE"), (24, u "LOG2_ARRAY_DOUBLE_INDEX_SCALE"), (89, u "T_BOOLEAN"), (2, u "T_CHAR"), (1, u "T_FLOAT"), (1, u "T_DOUBLE"), (1, u "T_BYTE"), (1, u "T_SHORT"), (1, u "T_INT"), (1, u "T_LONG"), (1, u "SOFT_MAX_ARRAY_LENGTH")] 83

def k16m0 : Method := { name := "<init>", desc := "()V", sig := { parameters := [], returnType := none }, accessFlags := 2, code := none }
/-- jdk/internal/util/ArraysSupport -/
def k16 : Class := { plain "jdk/internal/util/ArraysSupport" (some 0) with
  accessFlags := 33
  interfaces := #[]
  cf := some (fileOf pool16 21 #[] #[{ accessFlags := 2, nameIndex := 9, descriptorIndex := 19, attributes := #[] }] 33 16 #[] #[{ accessFlags := 24, nameIndex := 28, descriptorIndex := 29, attributes := #[] }, { accessFlags := 26, nameIndex := 38, descriptorIndex := 39, attributes := #[] }, { accessFlags := 25, nameIndex := 121, descriptorIndex := 25, attributes := #[] }, { accessFlags := 25, nameIndex := 131, descriptorIndex := 25, attributes := #[] }, { accessFlags := 25, nameIndex := 137, descriptorIndex := 25, attributes := #[] }, { accessFlags := 25, nameIndex := 143, descriptorIndex := 25, attributes := #[] }, { accessFlags := 25, nameIndex := 53, descriptorIndex := 25, attributes := #[] }, { accessFlags := 25, nameIndex := 24, descriptorIndex := 25, attributes := #[] }, { accessFlags := 25, nameIndex := 162, descriptorIndex := 25, attributes := #[] }, { accessFlags := 25, nameIndex := 187, descriptorIndex := 25, attributes := #[] }, { accessFlags := 26, nameIndex := 48, descriptorIndex := 25, attributes := #[] }, { accessFlags := 25, nameIndex := 277, descriptorIndex := 25, attributes := #[] }, { accessFlags := 25, nameIndex := 280, descriptorIndex := 25, attributes := #[] }, { accessFlags := 25, nameIndex := 282, descriptorIndex := 25, attributes := #[] }, { accessFlags := 25, nameIndex := 284, descriptorIndex := 25, attributes := #[] }, { accessFlags := 25, nameIndex := 286, descriptorIndex := 25, attributes := #[] }, { accessFlags := 25, nameIndex := 288, descriptorIndex := 25, attributes := #[] }, { accessFlags := 25, nameIndex := 290, descriptorIndex := 25, attributes := #[] }, { accessFlags := 25, nameIndex := 292, descriptorIndex := 25, attributes := #[] }, { accessFlags := 26, nameIndex := 108, descriptorIndex := 109, attributes := #[] }, { accessFlags := 25, nameIndex := 294, descriptorIndex := 25, attributes := #[] }])
  fields := #[{ name := "U", type := (.object "jdk/internal/misc/Unsafe"), accessFlags := 24, slot := 0, constantValue := 0 }, { name := "BIG_ENDIAN", type := .boolean, accessFlags := 26, slot := 1, constantValue := 0 }, { name := "LOG2_ARRAY_BOOLEAN_INDEX_SCALE", type := .int, accessFlags := 25, slot := 2, constantValue := 0 }, { name := "LOG2_ARRAY_BYTE_INDEX_SCALE", type := .int, accessFlags := 25, slot := 3, constantValue := 0 }, { name := "LOG2_ARRAY_CHAR_INDEX_SCALE", type := .int, accessFlags := 25, slot := 4, constantValue := 0 }, { name := "LOG2_ARRAY_SHORT_INDEX_SCALE", type := .int, accessFlags := 25, slot := 5, constantValue := 0 }, { name := "LOG2_ARRAY_INT_INDEX_SCALE", type := .int, accessFlags := 25, slot := 6, constantValue := 0 }, { name := "LOG2_ARRAY_LONG_INDEX_SCALE", type := .int, accessFlags := 25, slot := 7, constantValue := 0 }, { name := "LOG2_ARRAY_FLOAT_INDEX_SCALE", type := .int, accessFlags := 25, slot := 8, constantValue := 0 }, { name := "LOG2_ARRAY_DOUBLE_INDEX_SCALE", type := .int, accessFlags := 25, slot := 9, constantValue := 0 }, { name := "LOG2_BYTE_BIT_SIZE", type := .int, accessFlags := 26, slot := 10, constantValue := 0 }, { name := "T_BOOLEAN", type := .int, accessFlags := 25, slot := 11, constantValue := 0 }, { name := "T_CHAR", type := .int, accessFlags := 25, slot := 12, constantValue := 0 }, { name := "T_FLOAT", type := .int, accessFlags := 25, slot := 13, constantValue := 0 }, { name := "T_DOUBLE", type := .int, accessFlags := 25, slot := 14, constantValue := 0 }, { name := "T_BYTE", type := .int, accessFlags := 25, slot := 15, constantValue := 0 }, { name := "T_SHORT", type := .int, accessFlags := 25, slot := 16, constantValue := 0 }, { name := "T_INT", type := .int, accessFlags := 25, slot := 17, constantValue := 0 }, { name := "T_LONG", type := .int, accessFlags := 25, slot := 18, constantValue := 0 }, { name := "JLA", type := (.object "jdk/internal/access/JavaLangAccess"), accessFlags := 26, slot := 19, constantValue := 0 }, { name := "SOFT_MAX_ARRAY_LENGTH", type := .int, accessFlags := 25, slot := 20, constantValue := 0 }]
  methods := #[k16m0]
  instanceTypes := #[]
  staticTypes := #[(.object "jdk/internal/misc/Unsafe"), .boolean, .int, .int, .int, .int, .int, .int, .int, .int, .int, .int, .int, .int, .int, .int, .int, .int, .int, (.object "jdk/internal/access/JavaLangAccess"), .int]
  resolved := Array.replicate 378 none
  statics := none }

def pool17 : Array CpInfo := pool [(1, u "java/lang/Cloneable"), (0, .class_ 1), (0, u "java/lang/Object"), (0, .class_ 3)] 3

/-- java/lang/Cloneable -/
def k17 : Class := { plain "java/lang/Cloneable" (some 0) with
  accessFlags := 1537
  interfaces := #[]
  cf := some (fileOf pool17 2 #[] #[] 1537 4 #[] #[])
  fields := #[]
  methods := #[]
  instanceTypes := #[]
  staticTypes := #[]
  resolved := Array.replicate 8 none
  statics := none }

/-- the primitive byte -/
def k18 : Class := { plain "byte" none with kind := .primitive 'B', accessFlags := 0x411 }
/-- [B -/
def k19 : Class := { plain "[B" (some 0) with kind := .array 18 .byte, interfaces := #[17, 4], accessFlags := 1041 }

/-- the primitive int -/
def k20 : Class := { plain "int" none with kind := .primitive 'I', accessFlags := 0x411 }
/-- [I -/
def k21 : Class := { plain "[I" (some 0) with kind := .array 20 .int, interfaces := #[17, 4], accessFlags := 1041 }

def heap : Heap := #[{ cls := 6, slots := #[.ref 5, .ref 6, .long 0, .null, .null, .long 0, .long 0, .int 0, .null, .null, .null, .null, .null, .null, .null, .null, .null, .null, .null, .null, .null], vm := .statics 6 },
  { cls := 7, slots := #[.ref 7, .ref 8, .ref 9, .null], vm := .statics 7 },
  { cls := 10, slots := #[.long 0, .int 1, .null, .int 0, .null, .int 0, .int 0], vm := .statics 10 },
  { cls := 12, slots := #[.null, .ref 14], vm := .statics 12 },
  { cls := 15, slots := #[.null, .null, .null], vm := .statics 15 },
  { cls := 11, slots := #[.null, .int 0, .int 0, .null, .int 0, .ref 10, .null], vm := .none },
  { cls := 14, slots := #[.null, .int 1, .int 0, .null, .int 0, .ref 11, .null], vm := .none },
  { cls := 7, slots := #[.null, .int 0, .int 0], vm := .none },
  { cls := 7, slots := #[.null, .int 1, .int 0], vm := .none },
  { cls := 7, slots := #[.null, .int 2, .int 0], vm := .none },
  { cls := 10, slots := #[.ref 12, .int 0, .int 0, .int 0], vm := .none },
  { cls := 10, slots := #[.ref 13, .int 0, .int 0, .int 0], vm := .none },
  { cls := 19, slots := #[.int 70, .int 79, .int 82, .int 32, .int 83, .int 72, .int 65, .int 82, .int 69], vm := .none },
  { cls := 19, slots := #[.int 76, .int 79, .int 67, .int 75, .int 32, .int 73, .int 78, .int 32, .int 83, .int 72, .int 65, .int 82, .int 69, .int 32, .int 77, .int 79, .int 68, .int 69], vm := .none },
  { cls := 21, slots := #[.int 1, .int 3, .int 2], vm := .none }]
def classes : Array Class := #[k0, k1, k2, k3, k4, k5, k6, k7, k8, k9, k10, k11, k12, k13, k14, k15, k16, k17, k18, k19, k20, k21]
def interned : List (Array UInt16 × Addr) := []
def slotsUsed : Nat := 98
def theMethod : MethodId := ⟨1, 1⟩
def args0 : Array Value := #[.int 1, .int 1]
def aboutOver (below : List Frame) : State where
  vm := { classes := classes, interned := interned.toArray }
  heap := heap
  slotsUsed := slotsUsed
  threads := #[{ frames := .invoking theMethod args0 :: below }]
def below0 : List Frame := [.native { method := ⟨0, 0⟩, args := #[] }]
def about1 : State := aboutOver below0
def p0 : Program := .bare "" "" ""
def e0 : Env := launch0.env 0 0 0
theorem w_frames : about1.frames = Frame.invoking theMethod args0 :: below0 := rfl
set_option maxRecDepth 65536 in
theorem w_args : argsFit about1.vm theMethod args0 = true := by decide +kernel
set_option maxRecDepth 65536 in
theorem w_heap : heapFits about1 = true := by decide +kernel
set_option maxRecDepth 65536 in
theorem w_runnable : about1.curStatus? = some .runnable := by decide +kernel
set_option maxRecDepth 65536 in
theorem w_alone : about1.alone = true := by decide +kernel
set_option maxRecDepth 65536 in
theorem w_named : about1.methodNamed? x = some theMethod := by decide +kernel
set_option maxRecDepth 65536 in
theorem w_hears : about1.hears theMethod below0 = true := by decide +kernel
set_option maxRecDepth 65536 in
theorem w_ripe : about1.ripe theMethod args0 below0 = true := by decide +kernel
theorem w_running : about1.status = .running := rfl
set_option maxRecDepth 65536 in
theorem w_room : about1.hasRoom e0.platform room_1 = true :=
  launch0.hasRoom_least _ room_1 (by decide +kernel) (by decide +kernel) (by decide +kernel) (by decide +kernel) (by decide +kernel) (by decide +kernel)
theorem allAtoms_all (ts : List Jvm.Cond) (a : Array Jvm.Value) (st : Jvm.State) : (allAtoms ts).before a st = ts.all (fun c => c.before a st) := by
  induction ts with
  | nil => rfl
  | cons c t ih =>
    show (Jvm.Cond.and c (allAtoms t)).before a st = _
    rw [Jvm.Cond.before_and, ih, List.all_cons]
def words1 : List Jvm.Cond := Jvm.Cond.code x code maxLocals ret :: tables_1
/-- a 'code' word, met by the world's own term for the bytes: nothing is compared byte by byte -/
theorem code_word {y : MethodName} {bytes : ByteArray} {mx : Nat} {rt : Option FieldType} {a : Array Value} {s : State} {m : MethodId} {meth : Method} {c : Code} (h1 : s.methodNamed? y = some m) (h2 : s.vm.method? m = some meth) (h3 : meth.code = some c) (h4 : c.code = bytes)
    (h5 : (c.maxLocals == mx && c.exceptionTable.isEmpty && decide (c.maxStack ≤ mostOperands) && decide (meth.sig.returnType = rt) && !meth.locks && decide (parseMethodDescriptor y.desc = some meth.sig)) = true) : (Jvm.Cond.code y bytes mx rt).before a s = true := by
  simp only [Bool.and_eq_true, beq_iff_eq, Bool.not_eq_true', decide_eq_true_eq] at h5
  obtain ⟨⟨⟨⟨⟨g1, g2⟩, g3⟩, g4⟩, g5⟩, g6⟩ := h5
  simp [Cond.before, Cond.holds, Cond.value, h1, h2, h3, h4, g1, g2, g3, g4, g5, g6]
def isCode : Jvm.Cond → Bool
  | .code _ _ _ _ => true
  | _ => false
theorem all_split {L : List Jvm.Cond} {P : Jvm.Cond → Bool} (h1 : L.all (fun c => isCode c || P c) = true) (h2 : ∀ c ∈ L.filter isCode, P c = true) : L.all P = true := by
  refine List.all_eq_true.mpr fun c hc => ?_
  have h := List.all_eq_true.mp h1 c hc
  rcases Bool.eq_false_or_eq_true (isCode c) with hi | hi
  · exact h2 c (List.mem_filter.mpr ⟨hc, hi⟩)
  · simpa [hi] using h
set_option maxRecDepth 65536 in
theorem w_c0 : (Jvm.Cond.code x code maxLocals ret).before args0 about1 = true := code_word (m := ⟨1, 1⟩) (meth := k1m1) (c := k1c1) (by decide +kernel) rfl rfl rfl (by decide +kernel)
set_option maxRecDepth 65536 in
theorem w_c1 : (Jvm.Cond.code ({ cls := "com/example/schenley/schenley/Database", name := "lockClause", desc := "(Lcom/example/schenley/schenley/LockMode;)Ljava/lang/String;" } : Jvm.MethodName) prog_1_method_7_code (2 : Nat) (Option.some (Jvm.ClassFile.FieldType.object "java/lang/String"))).before args0 about1 = true := code_word (m := ⟨6, 0⟩) (meth := k6m0) (c := k6c0) (by decide +kernel) rfl rfl rfl (by decide +kernel)
set_option maxRecDepth 65536 in
theorem w_c2 : (Jvm.Cond.code ({ cls := "java/lang/Enum", name := "ordinal", desc := "()I" } : Jvm.MethodName) jdk_37_method_2_code (1 : Nat) (Option.some Jvm.ClassFile.FieldType.int)).before args0 about1 = true := code_word (m := ⟨5, 0⟩) (meth := k5m0) (c := k5c0) (by decide +kernel) rfl rfl rfl (by decide +kernel)
set_option maxRecDepth 65536 in
theorem w_c3 : (Jvm.Cond.code ({ cls := "java/lang/String", name := "equals", desc := "(Ljava/lang/Object;)Z" } : Jvm.MethodName) jdk_42_method_66_code (3 : Nat) (Option.some Jvm.ClassFile.FieldType.boolean)).before args0 about1 = true := code_word (m := ⟨10, 1⟩) (meth := k10m1) (c := k10c1) (by decide +kernel) rfl rfl rfl (by decide +kernel)
set_option maxRecDepth 65536 in
theorem w_c4 : (Jvm.Cond.code ({ cls := "java/lang/StringLatin1", name := "equals", desc := "([B[B)Z" } : Jvm.MethodName) jdk_43_method_13_code (3 : Nat) (Option.some Jvm.ClassFile.FieldType.boolean)).before args0 about1 = true := code_word (m := ⟨13, 1⟩) (meth := k13m1) (c := k13c1) (by decide +kernel) rfl rfl rfl (by decide +kernel)
def codes1 : List Jvm.Cond := [Jvm.Cond.code x code maxLocals ret, Jvm.Cond.code ({ cls := "com/example/schenley/schenley/Database", name := "lockClause", desc := "(Lcom/example/schenley/schenley/LockMode;)Ljava/lang/String;" } : Jvm.MethodName) prog_1_method_7_code (2 : Nat) (Option.some (Jvm.ClassFile.FieldType.object "java/lang/String")), Jvm.Cond.code ({ cls := "java/lang/Enum", name := "ordinal", desc := "()I" } : Jvm.MethodName) jdk_37_method_2_code (1 : Nat) (Option.some Jvm.ClassFile.FieldType.int), Jvm.Cond.code ({ cls := "java/lang/String", name := "equals", desc := "(Ljava/lang/Object;)Z" } : Jvm.MethodName) jdk_42_method_66_code (3 : Nat) (Option.some Jvm.ClassFile.FieldType.boolean), Jvm.Cond.code ({ cls := "java/lang/StringLatin1", name := "equals", desc := "([B[B)Z" } : Jvm.MethodName) jdk_43_method_13_code (3 : Nat) (Option.some Jvm.ClassFile.FieldType.boolean)]
set_option maxRecDepth 65536 in
theorem codes_eq : words1.filter isCode = codes1 := rfl
theorem w_codes : ∀ c ∈ words1.filter isCode, c.before args0 about1 = true := by
  rw [codes_eq]
  intro c hc
  simp only [codes1, List.mem_cons, List.not_mem_nil, or_false] at hc
  rcases hc with rfl | rfl | rfl | rfl | rfl
  · exact w_c0
  · exact w_c1
  · exact w_c2
  · exact w_c3
  · exact w_c4
set_option maxRecDepth 65536 in
theorem w_t1 : (words1.take 24).all (fun c => isCode c || c.before args0 about1) = true := by decide +kernel
set_option maxRecDepth 65536 in
theorem w_t2 : ((words1.drop 24).take 24).all (fun c => isCode c || c.before args0 about1) = true := by decide +kernel
set_option maxRecDepth 65536 in
theorem w_t3 : ((words1.drop 24).drop 24).all (fun c => isCode c || c.before args0 about1) = true := by decide +kernel
theorem w_tables : (allAtoms (Jvm.Cond.code x code maxLocals ret :: tables_1)).before args0 about1 = true := by
  rw [allAtoms_all]
  show words1.all (fun c => c.before args0 about1) = true
  refine all_split ?_ w_codes
  rw [← List.take_append_drop 24 words1, List.all_append, w_t1, ← List.take_append_drop 24 (words1.drop 24), List.all_append, w_t2, w_t3]
  rfl
set_option maxRecDepth 65536 in
theorem w_rest : rest_1_c.before args0 about1 = true := by decide +kernel
set_option maxRecDepth 65536 in
theorem w_case : (Jvm.Cond.and given_1 narrow_1).before args0 about1 = true := by decide +kernel
set_option maxRecDepth 65536 in
theorem w_consts : constsHeld consts_1 about1 := Jvm.Lit.constsHeldB_iff.mp (by decide +kernel)
theorem w_applies : (headSpec (Jvm.Cond.code x code maxLocals ret :: tables_1) room_1).applies x e0.platform about1 = true :=
  (Spec.applies_iff w_frames).mpr ⟨w_running, w_runnable, w_alone, w_named, w_hears, w_ripe, w_room, w_tables⟩
theorem atStart : AtStart classFile x code maxLocals ret World_1 tables_1 room_1 Calls_1 rest_1 Pre_1 launch0 p0 e0 about1 theMethod args0 below0 :=
  ⟨lists_1, trivial, launch0.admits_env _ _ _, launch0.least_env, fairChoices_fair.cas, fairChoices_fair.clock, w_frames, w_args, w_heap, w_applies, ⟨w_consts, trivial⟩, w_rest, w_case⟩
end start1
theorem witness_1 : WitnessClaimed_1 := ⟨start1.p0, start1.e0, start1.about1, start1.theMethod, start1.args0, start1.below0, start1.atStart⟩
end Jvm.Pilot.@@N@@
