import JvmDerived
import JvmDerived.Pilot.@@N@@Statement
import JvmDerived.Pilot.@@N@@Code
set_option linter.unusedVariables false
set_option linter.unusedSimpArgs false
@@BLOCK:NumsL.lean.txt@@
/- laws to paste: Road.backV, Road.lenW, Road.chN, Road.codOf (cut by pick.py; bodies as the Statement names them) -/
namespace Jvm.Pilot.@@N@@
namespace StrChars
open Jvm Sem ClassFile Op Lib Jvm.Stand Jvm.Free.XT Jvm.Free.ALB Jvm.Free.JM Jvm.Free
open Jvm.Lib.Cold (StaticIs)
/-- a char array whose places are chars -/
def Ch (a : Addr) (A : Cell) (U : State) : Prop := Arr .char a A U ∧ Typed .char A
theorem Ch.mv {a : Addr} {A : Cell} {U U' : State} (h : Ch a A U) (hal : U.vm.Alike U'.vm) (hh : U'.heap = U.heap) : Ch a A U' := ⟨h.1.mv hal hh, h.2⟩
theorem Ch.keep {a : Addr} {A : Cell} {U U' : State} (h : Ch a A U) (hal : U.vm.Alike U'.vm) (hk : U'.heap[a]? = some A) : Ch a A U' := ⟨h.1.keep hal hk, h.2⟩
/-- what place i of a char[]'s cell holds -/
def cv (A : Cell) (i : Nat) : Int32 := match A.slots[i]? with | some (.int x) => x | _ => 0
theorem Ch.get {a : Addr} {A : Cell} {U : State} (h : Ch a A U) {i : Nat} (hi : i < A.slots.size) : A.slots[i]? = some (.int (cv A i)) := by
  have e := Array.getElem?_eq_getElem hi
  have f := h.2 i _ e
  unfold cv; rw [e]
  generalize A.slots[i] = v at f
  cases v <;> simp [fits] at f ⊢
/-- the byte that i2b leaves of a char -/
def lo8 (x : Int32) : Int32 := x.toInt8.toInt32
theorem fits_lo8 (y : Int32) : fits .byte (.int (lo8 y)) = true := by
  have h1 := y.toInt8.le_toInt
  have h2 := y.toInt8.toInt_lt
  simp only [lo8, fits, Bool.and_eq_true, decide_eq_true_eq, Int32.le_iff_toInt_le, Int8.toInt_toInt32, show (-128 : Int32).toInt = -128 from by decide, show (127 : Int32).toInt = 127 from by decide]
  omega
/-- A' is A but that each place j of lo .. hi - 1 holds f j -/
def Laid (A A' : Cell) (lo hi : Nat) (f : Nat → Value) : Prop := A'.cls = A.cls ∧ A'.vm = A.vm ∧ A'.slots.size = A.slots.size ∧ ∀ i, A'.slots[i]? = if lo ≤ i ∧ i < hi then some (f i) else A.slots[i]?
theorem Laid.zero (A : Cell) (lo : Nat) (f : Nat → Value) : Laid A A lo (lo + 0) f := ⟨rfl, rfl, rfl, fun i => by rw [if_neg (by omega)]⟩
theorem Laid.step {A Ak : Cell} {lo k : Nat} {f : Nat → Value} {v : Value} (h : Laid A Ak lo k f) (hlo : lo ≤ k) (hk : k < Ak.slots.size) (hv : v = f k) : Laid A (Ak.setSlot k v) lo (k + 1) f := by
  refine ⟨h.1, h.2.1, by simpa [Cell.setSlot] using h.2.2.1, fun i => ?_⟩
  by_cases e : k = i
  · subst e; rw [Cell.slots_setSlot_self v hk, if_pos (by omega), hv]
  · rw [Cell.slots_setSlot_ne v e, h.2.2.2 i]
    by_cases q : lo ≤ i ∧ i < k
    · rw [if_pos q, if_pos (by omega)]
    · rw [if_neg q, if_neg (by omega)]
def U16 : String := "java/lang/StringUTF16"
namespace Cmp5
def yN : MethodName := ⟨"java/lang/StringUTF16", "compress", "([CI[BII)I"⟩
abbrev yB : ByteArray := jdk_52_method_21_code
theorem d0 : decode yB 0 = .ok (.iconst 0, 1) := by decide +kernel
theorem d1 : decode yB 1 = .ok (.istore 5, 2) := by decide +kernel
theorem d3 : decode yB 3 = .ok (.iload 5, 2) := by decide +kernel
theorem d5 : decode yB 5 = .ok (.iload 4, 2) := by decide +kernel
theorem d7 : decode yB 7 = .ok (.if_icmp (.ge) 37, 3) := by decide +kernel
theorem d10 : decode yB 10 = .ok (.aload_n 0, 1) := by decide +kernel
theorem d11 : decode yB 11 = .ok (.iload_n 1, 1) := by decide +kernel
theorem d12 : decode yB 12 = .ok (.caload, 1) := by decide +kernel
theorem d13 : decode yB 13 = .ok (.istore 6, 2) := by decide +kernel
theorem d15 : decode yB 15 = .ok (.iload 6, 2) := by decide +kernel
theorem d17 : decode yB 17 = .ok (.sipush 255, 3) := by decide +kernel
theorem d20 : decode yB 20 = .ok (.if_icmp (.le) 6, 3) := by decide +kernel
theorem d26 : decode yB 26 = .ok (.aload_n 2, 1) := by decide +kernel
theorem d27 : decode yB 27 = .ok (.iload_n 3, 1) := by decide +kernel
theorem d28 : decode yB 28 = .ok (.iload 6, 2) := by decide +kernel
theorem d30 : decode yB 30 = .ok (.i2b, 1) := by decide +kernel
theorem d31 : decode yB 31 = .ok (.bastore, 1) := by decide +kernel
theorem d32 : decode yB 32 = .ok (.iinc 1 1, 3) := by decide +kernel
theorem d35 : decode yB 35 = .ok (.iinc 3 1, 3) := by decide +kernel
theorem d38 : decode yB 38 = .ok (.iinc 5 1, 3) := by decide +kernel
theorem d41 : decode yB 41 = .ok (.goto (-38), 3) := by decide +kernel
theorem d44 : decode yB 44 = .ok (.iload 4, 2) := by decide +kernel
theorem d46 : decode yB 46 = .ok (.ireturn, 1) := by decide +kernel
def site : List Cond := []
def tab : Cond := tabOf yN yB 7 (some .int) site
def P (b : Addr) (A : Cell) (d : Addr) (B : Cell) (o q len : Nat) (args : Array Value) (s : State) : Prop := args = #[.ref b, .int (Int32.ofNat o), .ref d, .int (Int32.ofNat q), .int (Int32.ofNat len)] ∧ Ch b A s ∧ Arr .byte d B s ∧ b ≠ d ∧ o + len ≤ A.slots.size ∧ q + len ≤ B.slots.size ∧ ∀ i, i < len → ¬ 255 < cv A (o + i)
def E (b : Addr) (A : Cell) (d : Addr) (B : Cell) (o q len : Nat) (r : Option Value) (s u : State) : Prop := r = some (.int (Int32.ofNat len)) ∧ ∃ B', Put d B' s u ∧ Laid B B' q (q + len) (fun j => Value.int (lo8 (cv A (o + (j - q)))))
/-- no char of the range above 255: len; the places written hold each char's low byte -/
theorem law (l : Launch) (b : Addr) (A : Cell) (d : Addr) (B : Cell) (o q len : Nat) : Law l yN 5 5 0 0 yB 7 (some .int) site (P b A d B o q len) (E b A d B o q len) (copyLocs d q len) 0 0 := by
  refine Law.of_walk (plainFor_of_name (by decide +kernel)) (by decide +kernel) (by decide +kernel) (by decide) (fun _ _ h => by rw [h.1]; rfl) (fun _ U U' hal hh h => ⟨h.1, h.2.1.mv hal hh, h.2.2.1.mv hal hh, h.2.2.2⟩) (fun r U U' V V' h1 hal h2 h => ⟨h.1, h.2.elim fun B' q => ⟨B', q.1.mv h1 h2, q.2⟩⟩) ?_
  intro p e s m args below meth c s₁ X0 hexec hbytes hml hret hlk hnm hown hh0 W hP
  obtain ⟨rfl, hA, hB, hne, l1, l2, hp⟩ := hP
  have c1 : Steps p.tables e below (s₁.setTop (entryFrame m #[.ref b, .int (Int32.ofNat o), .ref d, .int (Int32.ofNat q), .int (Int32.ofNat len)] 7)) (s₁.setTop (mkF m 0 #[.val (.ref b), .val (.int (Int32.ofNat o)), .val (.ref d), .val (.int (Int32.ofNat q)), .val (.int (Int32.ofNat len)), .unset, .unset] [])) := entry rfl
  have hA0 := hA.1.mv X0.warmed.alike hh0
  have hB0 := hB.mv X0.warmed.alike hh0
  have a31 := hA.1.2.2.2
  have c2 : Steps p.tables e below (s₁.setTop (entryFrame m #[.ref b, .int (Int32.ofNat o), .ref d, .int (Int32.ofNat q), .int (Int32.ofNat len)] 7)) (s₁.setTop (mkF m 3 #[.val (.ref b), .val (.int (Int32.ofNat o)), .val (.ref d), .val (.int (Int32.ofNat q)), .val (.int (Int32.ofNat len)), .val (.int 0), .unset] [])) := c1.trans (by
    refine iconstV X0.here hexec rfl 0 (hb hbytes d0) (by decide) ?_
    refine XS.istore X0.here hexec rfl (hb hbytes d1) rfl rfl ?_
    exact Steps.refl _)
  have loop : ∀ (r i : Nat), i + r = len → ∀ (z : Slot), (z = .unset ∨ ∃ w, z = .val w ∧ w.category = 1) → ∀ (Tl : State) (Bk : Cell), Stand p l e { frames := 0, locals := 0, cells := 0, slots := 0 } s m #[.ref b, .int (Int32.ofNat o), .ref d, .int (Int32.ofNat q), .int (Int32.ofNat len)] below meth c Tl ([] ++ copyLocs d q i) 0 0 → Put d Bk s₁ Tl → Laid B Bk q (q + i) (fun j => Value.int (lo8 (cv A (o + (j - q))))) →
      Steps p.tables e below (s₁.setTop (entryFrame m #[.ref b, .int (Int32.ofNat o), .ref d, .int (Int32.ofNat q), .int (Int32.ofNat len)] 7)) (Tl.setTop (mkF m 3 #[.val (.ref b), .val (.int (Int32.ofNat (o + i))), .val (.ref d), .val (.int (Int32.ofNat (q + i))), .val (.int (Int32.ofNat len)), .val (.int (Int32.ofNat i)), z] [])) → ∃ (T' : State) (B' : Cell) (z' : Slot), Stand p l e { frames := 0, locals := 0, cells := 0, slots := 0 } s m #[.ref b, .int (Int32.ofNat o), .ref d, .int (Int32.ofNat q), .int (Int32.ofNat len)] below meth c T' ([] ++ copyLocs d q len) 0 0 ∧ Put d B' s₁ T' ∧ Laid B B' q (q + len) (fun j => Value.int (lo8 (cv A (o + (j - q))))) ∧
      Steps p.tables e below (s₁.setTop (entryFrame m #[.ref b, .int (Int32.ofNat o), .ref d, .int (Int32.ofNat q), .int (Int32.ofNat len)] 7)) (T'.setTop (mkF m 3 #[.val (.ref b), .val (.int (Int32.ofNat (o + len))), .val (.ref d), .val (.int (Int32.ofNat (q + len))), .val (.int (Int32.ofNat len)), .val (.int (Int32.ofNat len)), z'] [])) := by
    intro r
    induction r with
    | zero =>
      intro i hi z hz Tl Bk Xl pl fl cl
      have hil : i = len := by omega
      rw [hil] at Xl fl cl
      exact ⟨Tl, Bk, z, Xl, pl, fl, cl⟩
    | succ r ih =>
      intro i hi z hz Tl Bk Xl pl fl cl
      have all := X0.warmed.alike.symm.trans Xl.warmed.alike
      have hAl := hA0.keep all (pl.other hne hA0.1)
      have hBk := hB0.like all pl.1 fl.1 fl.2.1 fl.2.2.1
      have hlt : q + i < Bk.slots.size := by rw [fl.2.2.1]; omega
      have c3 : Steps p.tables e below (s₁.setTop (entryFrame m #[.ref b, .int (Int32.ofNat o), .ref d, .int (Int32.ofNat q), .int (Int32.ofNat len)] 7)) (Tl.setTop (mkF m 12 #[.val (.ref b), .val (.int (Int32.ofNat (o + i))), .val (.ref d), .val (.int (Int32.ofNat (q + i))), .val (.int (Int32.ofNat len)), .val (.int (Int32.ofNat i)), z] [.int (Int32.ofNat (o + i)), .ref b])) := cl.trans (by
        refine XS.iload Xl.here hexec rfl (hb hbytes d3) rfl ?_
        refine XS.iload Xl.here hexec rfl (hb hbytes d5) rfl ?_
        refine XS.icmpNo Xl.here hexec rfl (hb hbytes d7) rfl (ii_ge_f (lt32 (by omega) (by omega))) ?_
        refine XS.aloadN Xl.here hexec rfl (hb hbytes d10) rfl rfl ?_
        refine XS.iloadN Xl.here hexec rfl (hb hbytes d11) rfl ?_
        exact Steps.refl _)
      have c4 : Steps p.tables e below (s₁.setTop (entryFrame m #[.ref b, .int (Int32.ofNat o), .ref d, .int (Int32.ofNat q), .int (Int32.ofNat len)] 7)) (Tl.setTop (mkF m 13 #[.val (.ref b), .val (.int (Int32.ofNat (o + i))), .val (.ref d), .val (.int (Int32.ofNat (q + i))), .val (.int (Int32.ofNat len)), .val (.int (Int32.ofNat i)), z] [.int (cv A (o + i))])) := c3.trans (by
        refine Xl.aget hexec hAl rfl (hA.get (i := o + i) (by omega)) rfl rfl (hb hbytes d12) ?_
        exact Steps.refl _)
      have c5 : Steps p.tables e below (s₁.setTop (entryFrame m #[.ref b, .int (Int32.ofNat o), .ref d, .int (Int32.ofNat q), .int (Int32.ofNat len)] 7)) (Tl.setTop (mkF m 15 #[.val (.ref b), .val (.int (Int32.ofNat (o + i))), .val (.ref d), .val (.int (Int32.ofNat (q + i))), .val (.int (Int32.ofNat len)), .val (.int (Int32.ofNat i)), .val (.int (cv A (o + i)))] [])) := c4.trans (by
        refine XS.istoreS Xl.here hexec rfl (hb hbytes d13) rfl rfl hz ?_
        exact Steps.refl _)
      have c6 : Steps p.tables e below (s₁.setTop (entryFrame m #[.ref b, .int (Int32.ofNat o), .ref d, .int (Int32.ofNat q), .int (Int32.ofNat len)] 7)) (Tl.setTop (mkF m 31 #[.val (.ref b), .val (.int (Int32.ofNat (o + i))), .val (.ref d), .val (.int (Int32.ofNat (q + i))), .val (.int (Int32.ofNat len)), .val (.int (Int32.ofNat i)), .val (.int (cv A (o + i)))] [.int (lo8 (cv A (o + i))), .int (Int32.ofNat (q + i)), .ref d])) := c5.trans (by
        refine XS.iload Xl.here hexec rfl (hb hbytes d15) rfl ?_
        refine sipushV Xl.here hexec rfl 255 (hb hbytes d17) (by decide) ?_
        refine XS.icmpYes Xl.here hexec rfl (pc0 := 20) rfl (hb hbytes d20) rfl (ii_le_t (hp i (by omega))) (by decide) rfl ?_
        refine XS.aloadN Xl.here hexec rfl (hb hbytes d26) rfl rfl ?_
        refine XS.iloadN Xl.here hexec rfl (hb hbytes d27) rfl ?_
        refine XS.iload Xl.here hexec rfl (hb hbytes d28) rfl ?_
        refine i2b Xl.here hexec rfl (hb hbytes d30) rfl ?_
        exact Steps.refl _)
      obtain ⟨T7, X7, p7, st7⟩ := Xl.aput hexec hBk rfl hlt rfl (fits_lo8 (cv A (o + i))) (g := (mkF m 31 #[.val (.ref b), .val (.int (Int32.ofNat (o + i))), .val (.ref d), .val (.int (Int32.ofNat (q + i))), .val (.int (Int32.ofNat len)), .val (.int (Int32.ofNat i)), .val (.int (cv A (o + i)))] [.int (lo8 (cv A (o + i))), .int (Int32.ofNat (q + i)), .ref d])) rfl (rest := []) rfl (hb hbytes d31)
      have c8 : Steps p.tables e below (s₁.setTop (entryFrame m #[.ref b, .int (Int32.ofNat o), .ref d, .int (Int32.ofNat q), .int (Int32.ofNat len)] 7)) (T7.setTop (mkF m 32 #[.val (.ref b), .val (.int (Int32.ofNat (o + i))), .val (.ref d), .val (.int (Int32.ofNat (q + i))), .val (.int (Int32.ofNat len)), .val (.int (Int32.ofNat i)), .val (.int (cv A (o + i)))] [])) := c6.trans (st7 _ (Steps.refl _))
      have c9 : Steps p.tables e below (s₁.setTop (entryFrame m #[.ref b, .int (Int32.ofNat o), .ref d, .int (Int32.ofNat q), .int (Int32.ofNat len)] 7)) (T7.setTop (mkF m 3 #[.val (.ref b), .val (.int (Int32.ofNat (o + i) + 1)), .val (.ref d), .val (.int (Int32.ofNat (q + i) + 1)), .val (.int (Int32.ofNat len)), .val (.int (Int32.ofNat i + 1)), .val (.int (cv A (o + i)))] [])) := c8.trans (by
        refine iincV X7.here hexec rfl 1 (hb hbytes d32) (by decide) rfl rfl ?_
        refine iincV X7.here hexec rfl 1 (hb hbytes d35) (by decide) rfl rfl ?_
        refine iincV X7.here hexec rfl 1 (hb hbytes d38) (by decide) rfl rfl ?_
        refine XS.goto X7.here hexec rfl (pc0 := 41) rfl (hb hbytes d41) (by decide) rfl ?_
        exact Steps.refl _)
      have c10 : Steps p.tables e below (s₁.setTop (entryFrame m #[.ref b, .int (Int32.ofNat o), .ref d, .int (Int32.ofNat q), .int (Int32.ofNat len)] 7)) (T7.setTop (mkF m 3 #[.val (.ref b), .val (.int (Int32.ofNat (o + (i + 1)))), .val (.ref d), .val (.int (Int32.ofNat (q + (i + 1)))), .val (.int (Int32.ofNat len)), .val (.int (Int32.ofNat (i + 1))), .val (.int (cv A (o + i)))] [])) := by
        have := c9
        rw [succ32, succ32, succ32] at this
        exact this
      exact ih (i + 1) (by omega) _ (Or.inr ⟨_, rfl, rfl⟩) T7 _ (by rw [copyLocs_step, ← List.append_assoc]; exact X7) (pl.trans p7) (fl.step (by omega) hlt (by simp)) c10
  obtain ⟨T9, B9, z9, X9, p9, f9, g9⟩ := loop len 0 (by omega) .unset (Or.inl rfl) s₁ B (by simpa [copyLocs] using X0) ⟨hB0.1, fun _ _ => rfl, rfl⟩ (Laid.zero _ _ _) c2
  have c11 : Steps p.tables e below (s₁.setTop (entryFrame m #[.ref b, .int (Int32.ofNat o), .ref d, .int (Int32.ofNat q), .int (Int32.ofNat len)] 7)) (T9.setTop (mkF m 46 #[.val (.ref b), .val (.int (Int32.ofNat (o + len))), .val (.ref d), .val (.int (Int32.ofNat (q + len))), .val (.int (Int32.ofNat len)), .val (.int (Int32.ofNat len)), z9] [.int (Int32.ofNat len)])) := g9.trans (by
    refine XS.iload X9.here hexec rfl (hb hbytes d3) rfl ?_
    refine XS.iload X9.here hexec rfl (hb hbytes d5) rfl ?_
    refine XS.icmpYes X9.here hexec rfl (pc0 := 7) rfl (hb hbytes d7) rfl (ii_ge_t (nlt32 (by omega) (Nat.le_refl _))) (by decide) rfl ?_
    refine XS.iload X9.here hexec rfl (hb hbytes d44) rfl ?_
    exact Steps.refl _)
  exact ⟨T9, some (.int (Int32.ofNat len)), _, _, _, X9, by simp, rfl, rfl, (fun h => by cases h), ⟨rfl, B9, p9.from hh0, f9⟩, fun fs hl => c11.trans (X9.ireturnOut hexec hret rfl (Or.inl rfl) (hb hbytes d46) hl)⟩
end Cmp5
namespace Cmp3
def yN : MethodName := ⟨"java/lang/StringUTF16", "compress", "([CII)[B"⟩
abbrev yB : ByteArray := jdk_52_method_16_code
theorem d0 : decode yB 0 = .ok (.iload_n 2, 1) := by decide +kernel
theorem d1 : decode yB 1 = .ok (.newarray .byte, 2) := by decide +kernel
theorem d3 : decode yB 3 = .ok (.astore_n 3, 1) := by decide +kernel
theorem d4 : decode yB 4 = .ok (.aload_n 0, 1) := by decide +kernel
theorem d5 : decode yB 5 = .ok (.iload_n 1, 1) := by decide +kernel
theorem d6 : decode yB 6 = .ok (.aload_n 3, 1) := by decide +kernel
theorem d7 : decode yB 7 = .ok (.iconst 0, 1) := by decide +kernel
theorem d8 : decode yB 8 = .ok (.iload_n 2, 1) := by decide +kernel
theorem d9 : decode yB 9 = .ok (.invokestatic 115, 3) := by decide +kernel
theorem d12 : decode yB 12 = .ok (.istore 4, 2) := by decide +kernel
theorem d14 : decode yB 14 = .ok (.iload 4, 2) := by decide +kernel
theorem d16 : decode yB 16 = .ok (.iload_n 2, 1) := by decide +kernel
theorem d17 : decode yB 17 = .ok (.if_icmp (.eq) 40, 3) := by decide +kernel
theorem d57 : decode yB 57 = .ok (.aload_n 3, 1) := by decide +kernel
theorem d58 : decode yB 58 = .ok (.areturn, 1) := by decide +kernel
def site : List Cond := [.arrayClass .byte, Cmp5.tab] ++ staticW U16 115 Cmp5.yN
def tab : Cond := tabOf yN yB 6 (some (.array .byte)) site
def P (b : Addr) (A : Cell) (o len : Nat) (args : Array Value) (s : State) : Prop := args = #[.ref b, .int (Int32.ofNat o), .int (Int32.ofNat len)] ∧ Ch b A s ∧ o + len ≤ A.slots.size ∧ len ≤ 536870912 ∧ ∀ i, i < len → ¬ 255 < cv A (o + i)
def E (b : Addr) (A : Cell) (o len : Nat) (r : Option Value) (s u : State) : Prop := NewArr .byte "[B" len (fun j => .int (lo8 (cv A (o + j)))) r s u ∧ u.heap.size = s.heap.size + 1
/-- no char of the range above 255: a new byte[] of their low bytes -/
theorem law (l : Launch) (b : Addr) (A : Cell) (o len : Nat) : Law l yN 3 3 1 18 yB 6 (some (.array .byte)) site (P b A o len) (E b A o len) [] 1 len := by
  refine Law.of_walk (plainFor_of_name (by decide +kernel)) (by decide +kernel) (by decide +kernel) (by decide) (fun _ _ h => by rw [h.1]; rfl) (fun _ U U' hal hh h => ⟨h.1, h.2.1.mv hal hh, h.2.2⟩) (fun r U U' V V' h1 hal h2 h => ⟨NewArr.mv r U U' V V' h1 hal h2 h.1, by rw [h1, h2]; exact h.2⟩) ?_
  intro p e s m args below meth c s₁ X0 hexec hbytes hml hret hlk hnm hown hh0 W hP
  obtain ⟨rfl, hA, l1, l2, hp⟩ := hP
  have a31 := hA.1.2.2.2
  have c1 : Steps p.tables e below (s₁.setTop (entryFrame m #[.ref b, .int (Int32.ofNat o), .int (Int32.ofNat len)] 6)) (s₁.setTop (mkF m 0 #[.val (.ref b), .val (.int (Int32.ofNat o)), .val (.int (Int32.ofNat len)), .unset, .unset, .unset] [])) := entry rfl
  have c2 : Steps p.tables e below (s₁.setTop (entryFrame m #[.ref b, .int (Int32.ofNat o), .int (Int32.ofNat len)] 6)) (s₁.setTop (mkF m 1 #[.val (.ref b), .val (.int (Int32.ofNat o)), .val (.int (Int32.ofNat len)), .unset, .unset, .unset] [.int (Int32.ofNat len)])) := c1.trans (by
    refine XS.iloadN X0.here hexec rfl (hb hbytes d0) rfl ?_
    exact Steps.refl _)
  obtain ⟨T3, B3, X3, ba3, bs3, bv3, bh3, bf3, st3⟩ := X0.anew hexec (atype := .byte) (wk W (.arrayClass .byte)) rfl (by show len * 1 ≤ _; omega) (by omega) (g := (mkF m 1 #[.val (.ref b), .val (.int (Int32.ofNat o)), .val (.int (Int32.ofNat len)), .unset, .unset, .unset] [.int (Int32.ofNat len)])) rfl (hb hbytes d1) (rest := []) rfl (Nat.le_refl _) (by show 0 + len ≤ len; omega)
  rw [hh0] at ba3 st3
  have kp3 : XT.Kept s T3 := (XT.Kept.of_eq hh0).push bh3
  have hA3 := hA.keep X3.warmed.alike (kp3 _ _ hA.1.1)
  have hne : b ≠ s.heap.size := hA.1.ne
  have c4 : Steps p.tables e below (s₁.setTop (entryFrame m #[.ref b, .int (Int32.ofNat o), .int (Int32.ofNat len)] 6)) (T3.setTop (mkF m 3 #[.val (.ref b), .val (.int (Int32.ofNat o)), .val (.int (Int32.ofNat len)), .unset, .unset, .unset] [.ref s.heap.size])) := c2.trans (st3 _ (Steps.refl _))
  have c5 : Steps p.tables e below (s₁.setTop (entryFrame m #[.ref b, .int (Int32.ofNat o), .int (Int32.ofNat len)] 6)) (T3.setTop (mkF m 9 #[.val (.ref b), .val (.int (Int32.ofNat o)), .val (.int (Int32.ofNat len)), .val (.ref s.heap.size), .unset, .unset] [.int (Int32.ofNat len), .int 0, .ref s.heap.size, .int (Int32.ofNat o), .ref b])) := c4.trans (by
    refine XS.astoreN X3.here hexec rfl (hb hbytes d3) rfl rfl rfl ?_
    refine XS.aloadN X3.here hexec rfl (hb hbytes d4) rfl rfl ?_
    refine XS.iloadN X3.here hexec rfl (hb hbytes d5) rfl ?_
    refine XS.aloadN X3.here hexec rfl (hb hbytes d6) rfl rfl ?_
    refine iconstV X3.here hexec rfl 0 (hb hbytes d7) (by decide) ?_
    refine XS.iloadN X3.here hexec rfl (hb hbytes d8) rfl ?_
    exact Steps.refl _)
  obtain ⟨v6, T6, X6, E6, g6⟩ := X3.callS hexec (Cmp5.law l b A s.heap.size B3 o 0 len) hown (wks W (staticW U16 115 Cmp5.yN)) (wk W Cmp5.tab) (W := 0) (Nat.le_of_ble_eq_true rfl) (Nat.le_of_ble_eq_true rfl) (Nat.le_refl _) (by show 0 + len + 0 ≤ len; omega) (g := (mkF m 9 #[.val (.ref b), .val (.int (Int32.ofNat o)), .val (.int (Int32.ofNat len)), .val (.ref s.heap.size), .unset, .unset] [.int (Int32.ofNat len), .int (Int32.ofNat 0), .ref s.heap.size, .int (Int32.ofNat o), .ref b])) rfl (by rw [hml]; rfl) c5 (argsL := [.ref b, .int (Int32.ofNat o), .ref s.heap.size, .int (Int32.ofNat 0), .int (Int32.ofNat len)]) (rest := []) rfl rfl (by show 2 * 0 + 0 ≤ _; decide) (hb hbytes d9) (⟨rfl, hA3, ba3, hne, l1, by rw [bs3]; simp, hp⟩)
  obtain ⟨rfl, B6, p6, f6⟩ := E6
  have c7 : Steps p.tables e below (s₁.setTop (entryFrame m #[.ref b, .int (Int32.ofNat o), .int (Int32.ofNat len)] 6)) (T6.setTop (mkF m 12 #[.val (.ref b), .val (.int (Int32.ofNat o)), .val (.int (Int32.ofNat len)), .val (.ref s.heap.size), .unset, .unset] [.int (Int32.ofNat len)])) := g6
  have c8 : Steps p.tables e below (s₁.setTop (entryFrame m #[.ref b, .int (Int32.ofNat o), .int (Int32.ofNat len)] 6)) (T6.setTop (mkF m 58 #[.val (.ref b), .val (.int (Int32.ofNat o)), .val (.int (Int32.ofNat len)), .val (.ref s.heap.size), .val (.int (Int32.ofNat len)), .unset] [.ref s.heap.size])) := c7.trans (by
    refine XS.istore X6.here hexec rfl (hb hbytes d12) rfl rfl ?_
    refine XS.iload X6.here hexec rfl (hb hbytes d14) rfl ?_
    refine XS.iloadN X6.here hexec rfl (hb hbytes d16) rfl ?_
    refine XS.icmpYes X6.here hexec rfl (pc0 := 17) rfl (hb hbytes d17) rfl (ii_eq_t rfl) (by decide) rfl ?_
    refine XS.aloadN X6.here hexec rfl (hb hbytes d57) rfl rfl ?_
    exact Steps.refl _)
  have X8 := X6.wide (L' := []) (cells' := 1) (slots' := len) (fun x hx hlt => by
    simp only [List.nil_append, copyLocs, List.mem_map, List.mem_range] at hx
    obtain ⟨i, -, rfl⟩ := hx
    exact absurd hlt (Nat.lt_irrefl _)) (Nat.le_refl _) (by omega)
  exact ⟨T6, some (.ref s.heap.size), _, _, _, X8, rfl, rfl, rfl, (fun h => by cases h), ⟨⟨rfl, B6, ba3.like (X3.warmed.alike.symm.trans X6.warmed.alike) p6.1 f6.1 f6.2.1 f6.2.2.1, f6.2.1.trans bv3, by rw [X6.warmed.alike.findClass, f6.1]; exact bf3, by rw [f6.2.2.1, bs3]; simp, fun j hj => by rw [f6.2.2.2 j, if_pos (by omega)]; rfl, kp3.put p6 (Nat.le_refl _)⟩, by rw [p6.2.2, bh3, hh0]; simp⟩, fun fs hl => c8.trans (X8.areturnOut hexec rfl hret rfl (hb hbytes d58) hl)⟩
end Cmp3
namespace CodL
def yN : MethodName := ⟨"java/lang/StringUTF16", "coderFromArrayLen", "([BI)B"⟩
abbrev yB : ByteArray := jdk_52_method_15_code
theorem d0 : decode yB 0 = .ok (.iload_n 1, 1) := by decide +kernel
theorem d1 : decode yB 1 = .ok (.aload_n 0, 1) := by decide +kernel
theorem d2 : decode yB 2 = .ok (.arraylength, 1) := by decide +kernel
theorem d3 : decode yB 3 = .ok (.isub, 1) := by decide +kernel
theorem d4 : decode yB 4 = .ok (.bipush 31, 2) := by decide +kernel
theorem d6 : decode yB 6 = .ok (.iushr, 1) := by decide +kernel
theorem d7 : decode yB 7 = .ok (.i2b, 1) := by decide +kernel
theorem d8 : decode yB 8 = .ok (.ireturn, 1) := by decide +kernel
def site : List Cond := []
def tab : Cond := tabOf yN yB 2 (some .byte) site
def P (d : Addr) (B : Cell) (args : Array Value) (s : State) : Prop := args = #[.ref d, .int (Int32.ofNat B.slots.size)] ∧ Arr .byte d B s
def E (r : Option Value) (s u : State) : Prop := XT.PureE (some (.int 0)) r s u
/-- an array as long as the number of chars: LATIN1 -/
theorem law (l : Launch) (d : Addr) (B : Cell) : Law l yN 2 2 0 0 yB 2 (some .byte) site (P d B) E [] 0 0 := by
  refine Law.of_walk (plainFor_of_name (by decide +kernel)) (by decide +kernel) (by decide +kernel) (by decide) (fun _ _ h => by rw [h.1]; rfl) (fun _ U U' hal hh h => ⟨h.1, h.2.mv hal hh⟩) (fun r U U' V V' h1 hal h2 h => XT.PureE.mv r U U' V V' h1 hal h2 h) ?_
  intro p e s m args below meth c s₁ X0 hexec hbytes hml hret hlk hnm hown hh0 W hP
  obtain ⟨rfl, hB⟩ := hP
  have hB0 := hB.mv X0.warmed.alike hh0
  have c1 : Steps p.tables e below (s₁.setTop (entryFrame m #[.ref d, .int (Int32.ofNat B.slots.size)] 2)) (s₁.setTop (mkF m 0 #[.val (.ref d), .val (.int (Int32.ofNat B.slots.size))] [])) := entry rfl
  have c2 : Steps p.tables e below (s₁.setTop (entryFrame m #[.ref d, .int (Int32.ofNat B.slots.size)] 2)) (s₁.setTop (mkF m 2 #[.val (.ref d), .val (.int (Int32.ofNat B.slots.size))] [.ref d, .int (Int32.ofNat B.slots.size)])) := c1.trans (by
    refine XS.iloadN X0.here hexec rfl (hb hbytes d0) rfl ?_
    refine XS.aloadN X0.here hexec rfl (hb hbytes d1) rfl rfl ?_
    exact Steps.refl _)
  have c3 : Steps p.tables e below (s₁.setTop (entryFrame m #[.ref d, .int (Int32.ofNat B.slots.size)] 2)) (s₁.setTop (mkF m 8 #[.val (.ref d), .val (.int (Int32.ofNat B.slots.size))] [.int (lo8 (ushr (Int32.ofNat B.slots.size - Int32.ofNat B.slots.size) 31))])) := c2.trans (by
    refine X0.alen hexec hB0 rfl rfl (hb hbytes d2) ?_
    refine XS.isub X0.here hexec rfl (hb hbytes d3) rfl ?_
    refine bipushV X0.here hexec rfl 31 (hb hbytes d4) (by decide) ?_
    refine iushr X0.here hexec rfl (hb hbytes d6) rfl ?_
    refine i2b X0.here hexec rfl (hb hbytes d7) rfl ?_
    exact Steps.refl _)
  have e0 : lo8 (ushr (Int32.ofNat B.slots.size - Int32.ofNat B.slots.size) 31) = 0 := by rw [Int32.sub_self]; decide
  rw [e0] at c3
  exact ⟨s₁, some (.int 0), _, _, _, X0, rfl, rfl, rfl, (fun h => by cases h), ⟨rfl, hh0⟩, fun fs hl => c3.trans (X0.ireturnOut hexec hret rfl (Or.inr (Or.inr (Or.inl rfl))) (hb hbytes d8) hl)⟩
end CodL
/-- the String at a is Latin-1 over a new byte[] (the heap's one new cell): the low bytes of the len chars of A from o on; every cell but a is kept -/
def Got (a : Addr) (D : Cell) (fV fC : Field) (A : Cell) (o len : Nat) (r : Option Value) (s u : State) : Prop := r = none ∧ ∃ D' V : Cell, Blank "java/lang/String" a D' u ∧ Same D D' [fV.slot, fC.slot] ∧ D'.slots[fV.slot]? = some (.ref s.heap.size) ∧ D'.slots[fC.slot]? = some (.int 0) ∧ Arr .byte s.heap.size V u ∧ V.vm = .none ∧ u.vm.findClass "[B" = some V.cls ∧ V.slots.size = len ∧ (∀ j, j < len → V.slots[j]? = some (.int (lo8 (cv A (o + j))))) ∧ (∀ (y : Addr) (c : Cell), y ≠ a → s.heap[y]? = some c → u.heap[y]? = some c) ∧ u.heap.size = s.heap.size + 1
theorem Got.mv {a : Addr} {D A : Cell} {fV fC : Field} {o len : Nat} : ∀ r (U U' V V' : State), U'.heap = U.heap → V.vm.Alike V'.vm → V'.heap = V.heap → Got a D fV fC A o len r U V → Got a D fV fC A o len r U' V' :=
  fun r U U' V V' h1 hal h2 ⟨e0, D', X, a1, a2, a3, a4, a5, a6, a7, a8, a9, a10, a11⟩ => ⟨e0, D', X, a1.mv hal h2, a2, by rw [h1]; exact a3, a4, by rw [h1]; exact a5.mv hal h2, a6, by rw [hal.findClass]; exact a7, a8, a9, by rw [h1, h2]; exact a10, by rw [h1, h2]; exact a11⟩
namespace New4
def yN : MethodName := ⟨"java/lang/String", "<init>", "([CIILjava/lang/Void;)V"⟩
abbrev yB : ByteArray := jdk_42_method_149_code
theorem d0 : decode yB 0 = .ok (.aload_n 0, 1) := by decide +kernel
theorem d1 : decode yB 1 = .ok (.invokespecial 1, 3) := by decide +kernel
theorem d4 : decode yB 4 = .ok (.iload_n 3, 1) := by decide +kernel
theorem d5 : decode yB 5 = .ok (.ifCond (.ne) 22, 3) := by decide +kernel
theorem d27 : decode yB 27 = .ok (.getstatic 38, 3) := by decide +kernel
theorem d30 : decode yB 30 = .ok (.ifCond (.eq) 28, 3) := by decide +kernel
theorem d33 : decode yB 33 = .ok (.aload_n 1, 1) := by decide +kernel
theorem d34 : decode yB 34 = .ok (.iload_n 2, 1) := by decide +kernel
theorem d35 : decode yB 35 = .ok (.iload_n 3, 1) := by decide +kernel
theorem d36 : decode yB 36 = .ok (.invokestatic 177, 3) := by decide +kernel
theorem d39 : decode yB 39 = .ok (.astore 5, 2) := by decide +kernel
theorem d41 : decode yB 41 = .ok (.aload_n 0, 1) := by decide +kernel
theorem d42 : decode yB 42 = .ok (.aload 5, 2) := by decide +kernel
theorem d44 : decode yB 44 = .ok (.iload_n 3, 1) := by decide +kernel
theorem d45 : decode yB 45 = .ok (.invokestatic 47, 3) := by decide +kernel
theorem d48 : decode yB 48 = .ok (.putfield 15, 3) := by decide +kernel
theorem d51 : decode yB 51 = .ok (.aload_n 0, 1) := by decide +kernel
theorem d52 : decode yB 52 = .ok (.aload 5, 2) := by decide +kernel
theorem d54 : decode yB 54 = .ok (.putfield 9, 3) := by decide +kernel
theorem d57 : decode yB 57 = .ok (.return_, 1) := by decide +kernel
def site : List Cond := [.fieldLink "java/lang/String" 38 "java/lang/String" "COMPACT_STRINGS" "Z", Cmp3.tab, CodL.tab, .laysFinal "java/lang/String" "java/lang/String" "value" "[B", .fieldLink "java/lang/String" 9 "java/lang/String" "value" "[B", .laysFinal "java/lang/String" "java/lang/String" "coder" "B", .fieldLink "java/lang/String" 15 "java/lang/String" "coder" "B"] ++ objW "java/lang/String" 1 ++ staticW "java/lang/String" 177 Cmp3.yN ++ staticW "java/lang/String" 47 CodL.yN
def tab : Cond := tabOf yN yB 6 none site
def P (a : Addr) (D : Cell) (fV fC : Field) (b : Addr) (A : Cell) (z : Int32) (o len : Nat) (args : Array Value) (s : State) : Prop := args = #[.ref a, .ref b, .int (Int32.ofNat o), .int (Int32.ofNat len), .null] ∧ Blank "java/lang/String" a D s ∧ Found "java/lang/String" "value" "[B" fV s ∧ Found "java/lang/String" "coder" "B" fC s ∧ Ch b A s ∧ StaticIs s "java/lang/String" "COMPACT_STRINGS" "Z" (.int z) ∧ ¬ z = 0 ∧ 0 < len ∧ o + len ≤ A.slots.size ∧ len ≤ 536870912 ∧ ∀ i, i < len → ¬ 255 < cv A (o + i)
def E (a : Addr) (D : Cell) (fV fC : Field) (A : Cell) (o len : Nat) (r : Option Value) (s u : State) : Prop := Got a D fV fC A o len r s u
/-- len > 0, no char of the range above 255: a Latin-1 String of their low bytes -/
theorem law (l : Launch) (a : Addr) (D : Cell) (fV fC : Field) (b : Addr) (A : Cell) (z : Int32) (o len : Nat) : Law l yN 5 4 2 35 yB 6 none site (P a D fV fC b A z o len) (E a D fV fC A o len) [⟨a, fC.slot⟩, ⟨a, fV.slot⟩] 1 len := by
  refine Law.of_walk (plainFor_of_name (by decide +kernel)) (by decide +kernel) (by decide +kernel) (by decide) (fun _ _ h => by rw [h.1]; rfl) (fun _ U U' hal hh h => ⟨h.1, h.2.1.mv hal hh, h.2.2.1.al hal, h.2.2.2.1.al hal, h.2.2.2.2.1.mv hal hh, h.2.2.2.2.2.1.there hal hh, h.2.2.2.2.2.2⟩) (fun r U U' V V' h1 hal h2 h => Got.mv r U U' V V' h1 hal h2 h) ?_
  intro p e s m args below meth c s₁ X0 hexec hbytes hml hret hlk hnm hown hh0 W hP
  obtain ⟨rfl, hB, f1, f2, hA, s1, hz, l0, l1, l2, hp⟩ := hP
  have a31 := hA.1.2.2.2
  have c1 : Steps p.tables e below (s₁.setTop (entryFrame m #[.ref a, .ref b, .int (Int32.ofNat o), .int (Int32.ofNat len), .null] 6)) (s₁.setTop (mkF m 0 #[.val (.ref a), .val (.ref b), .val (.int (Int32.ofNat o)), .val (.int (Int32.ofNat len)), .val .null, .unset] [])) := entry rfl
  have c2 : Steps p.tables e below (s₁.setTop (entryFrame m #[.ref a, .ref b, .int (Int32.ofNat o), .int (Int32.ofNat len), .null] 6)) (s₁.setTop (mkF m 1 #[.val (.ref a), .val (.ref b), .val (.int (Int32.ofNat o)), .val (.int (Int32.ofNat len)), .val .null, .unset] [.ref a])) := c1.trans (by
    refine XS.aloadN X0.here hexec rfl (hb hbytes d0) rfl rfl ?_
    exact Steps.refl _)
  obtain ⟨T3, X3, q3, st3⟩ := X0.oinit hexec hown (wks W (objW "java/lang/String" 1)) (g := (mkF m 1 #[.val (.ref a), .val (.ref b), .val (.int (Int32.ofNat o)), .val (.int (Int32.ofNat len)), .val .null, .unset] [.ref a])) rfl (by rw [hml]; rfl) (rest := []) rfl (hb hbytes d1) (W := 0) (by show 2 * 0 + 0 ≤ _; decide) (Nat.le_of_ble_eq_true rfl) (Nat.le_of_ble_eq_true rfl)
  have hh3 := q3.trans hh0
  have c4 : Steps p.tables e below (s₁.setTop (entryFrame m #[.ref a, .ref b, .int (Int32.ofNat o), .int (Int32.ofNat len), .null] 6)) (T3.setTop (mkF m 27 #[.val (.ref a), .val (.ref b), .val (.int (Int32.ofNat o)), .val (.int (Int32.ofNat len)), .val .null, .unset] [])) := (c2.trans (st3 _ (Steps.refl _))).trans (by
    refine XS.iloadN X3.here hexec rfl (hb hbytes d4) rfl ?_
    refine XS.ifYes X3.here hexec rfl (pc0 := 5) rfl (hb hbytes d5) rfl (i0_ne_t (nz32 (by omega) l0)) (by decide) rfl ?_
    exact Steps.refl _)
  obtain ⟨T5, X5, q5, st5⟩ := X3.sget hexec hown (wk W (.fieldLink "java/lang/String" 38 "java/lang/String" "COMPACT_STRINGS" "Z")) s1 (fun _ _ h => by rw [hh3]; exact h) (g := (mkF m 27 #[.val (.ref a), .val (.ref b), .val (.int (Int32.ofNat o)), .val (.int (Int32.ofNat len)), .val .null, .unset] [])) rfl (hb hbytes d27)
  have hh5 := q5.trans hh3
  have c6 : Steps p.tables e below (s₁.setTop (entryFrame m #[.ref a, .ref b, .int (Int32.ofNat o), .int (Int32.ofNat len), .null] 6)) (T5.setTop (mkF m 30 #[.val (.ref a), .val (.ref b), .val (.int (Int32.ofNat o)), .val (.int (Int32.ofNat len)), .val .null, .unset] [.int z])) := c4.trans (st5 _ (Steps.refl _))
  have c7 : Steps p.tables e below (s₁.setTop (entryFrame m #[.ref a, .ref b, .int (Int32.ofNat o), .int (Int32.ofNat len), .null] 6)) (T5.setTop (mkF m 36 #[.val (.ref a), .val (.ref b), .val (.int (Int32.ofNat o)), .val (.int (Int32.ofNat len)), .val .null, .unset] [.int (Int32.ofNat len), .int (Int32.ofNat o), .ref b])) := c6.trans (by
    refine XS.ifNo X5.here hexec rfl (hb hbytes d30) rfl (i0_eq_f hz) ?_
    refine XS.aloadN X5.here hexec rfl (hb hbytes d33) rfl rfl ?_
    refine XS.iloadN X5.here hexec rfl (hb hbytes d34) rfl ?_
    refine XS.iloadN X5.here hexec rfl (hb hbytes d35) rfl ?_
    exact Steps.refl _)
  obtain ⟨v8, T8, X8, E8, g8⟩ := X5.callS hexec (Cmp3.law l b A o len) hown (wks W (staticW "java/lang/String" 177 Cmp3.yN)) (wk W Cmp3.tab) (W := 0) (Nat.le_of_ble_eq_true rfl) (Nat.le_of_ble_eq_true rfl) (Nat.le_refl _) (by show 0 + len ≤ len; omega) (g := (mkF m 36 #[.val (.ref a), .val (.ref b), .val (.int (Int32.ofNat o)), .val (.int (Int32.ofNat len)), .val .null, .unset] [.int (Int32.ofNat len), .int (Int32.ofNat o), .ref b])) rfl (by rw [hml]; rfl) c7 (argsL := [.ref b, .int (Int32.ofNat o), .int (Int32.ofNat len)]) (rest := []) rfl rfl (by show 2 * 0 + 0 ≤ _; decide) (hb hbytes d36) (⟨rfl, hA.mv X5.warmed.alike hh5, l1, l2, hp⟩)
  obtain ⟨e8, z8⟩ := E8
  obtain ⟨rfl, N, n1, n2, n3, n4, n5, n6⟩ := NewArr.mv _ T5 s _ _ hh5.symm (Vm.Alike.refl _) rfl e8
  rw [hh5] at z8
  have hB1 := hB.keep X8.warmed.alike (n6 _ _ hB.1)
  have hne : s.heap.size ≠ a := (Nat.ne_of_lt (Array.getElem?_eq_some_iff.mp hB.1).1).symm
  have c9 : Steps p.tables e below (s₁.setTop (entryFrame m #[.ref a, .ref b, .int (Int32.ofNat o), .int (Int32.ofNat len), .null] 6)) (T8.setTop (mkF m 39 #[.val (.ref a), .val (.ref b), .val (.int (Int32.ofNat o)), .val (.int (Int32.ofNat len)), .val .null, .unset] [.ref s.heap.size])) := g8
  have c10 : Steps p.tables e below (s₁.setTop (entryFrame m #[.ref a, .ref b, .int (Int32.ofNat o), .int (Int32.ofNat len), .null] 6)) (T8.setTop (mkF m 45 #[.val (.ref a), .val (.ref b), .val (.int (Int32.ofNat o)), .val (.int (Int32.ofNat len)), .val .null, .val (.ref s.heap.size)] [.int (Int32.ofNat N.slots.size), .ref s.heap.size, .ref a])) := by
    have hc : Steps p.tables e below (s₁.setTop (entryFrame m #[.ref a, .ref b, .int (Int32.ofNat o), .int (Int32.ofNat len), .null] 6)) (T8.setTop (mkF m 45 #[.val (.ref a), .val (.ref b), .val (.int (Int32.ofNat o)), .val (.int (Int32.ofNat len)), .val .null, .val (.ref s.heap.size)] [.int (Int32.ofNat len), .ref s.heap.size, .ref a])) := c9.trans (by
      refine XS.astore X8.here hexec rfl (hb hbytes d39) rfl rfl rfl ?_
      refine XS.aloadN X8.here hexec rfl (hb hbytes d41) rfl rfl ?_
      refine XS.aload X8.here hexec rfl (hb hbytes d42) rfl rfl ?_
      refine XS.iloadN X8.here hexec rfl (hb hbytes d44) rfl ?_
      exact Steps.refl _)
    rw [n4]; exact hc
  obtain ⟨v11, T11, X11, E11, g11⟩ := X8.callS hexec (CodL.law l s.heap.size N) hown (wks W (staticW "java/lang/String" 47 CodL.yN)) (wk W CodL.tab) (W := 1) (Nat.le_of_ble_eq_true rfl) (Nat.le_of_ble_eq_true rfl) (Nat.le_refl _) (by show 0 + len + 0 ≤ len; omega) (g := (mkF m 45 #[.val (.ref a), .val (.ref b), .val (.int (Int32.ofNat o)), .val (.int (Int32.ofNat len)), .val .null, .val (.ref s.heap.size)] [.int (Int32.ofNat N.slots.size), .ref s.heap.size, .ref a])) rfl (by rw [hml]; rfl) c10 (argsL := [.ref s.heap.size, .int (Int32.ofNat N.slots.size)]) (rest := [.ref a]) rfl rfl (by show 2 * 0 + (1 + 0) ≤ _; decide) (hb hbytes d45) (⟨rfl, n1⟩)
  obtain ⟨rfl, q11⟩ := E11
  have hB11 := hB1.mv (X8.warmed.alike.symm.trans X11.warmed.alike) q11
  have c12 : Steps p.tables e below (s₁.setTop (entryFrame m #[.ref a, .ref b, .int (Int32.ofNat o), .int (Int32.ofNat len), .null] 6)) (T11.setTop (mkF m 48 #[.val (.ref a), .val (.ref b), .val (.int (Int32.ofNat o)), .val (.int (Int32.ofNat len)), .val .null, .val (.ref s.heap.size)] [.int 0, .ref a])) := g11
  obtain ⟨T13, X13, p13, bl13, sl13, st13⟩ := X11.finit hexec hown (wk W (.fieldLink "java/lang/String" 15 "java/lang/String" "coder" "B")) (Or.inr ⟨_, (wk W (.laysFinal "java/lang/String" "java/lang/String" "coder" "B"))⟩) (Or.inl ⟨rfl, hnm⟩) f2 (Or.inl rfl) hB11 (t := .byte) (by decide +kernel) rfl (g := (mkF m 48 #[.val (.ref a), .val (.ref b), .val (.int (Int32.ofNat o)), .val (.int (Int32.ofNat len)), .val .null, .val (.ref s.heap.size)] [.int 0, .ref a])) rfl (rest := []) rfl (hb hbytes d48)
  have c14 : Steps p.tables e below (s₁.setTop (entryFrame m #[.ref a, .ref b, .int (Int32.ofNat o), .int (Int32.ofNat len), .null] 6)) (T13.setTop (mkF m 54 #[.val (.ref a), .val (.ref b), .val (.int (Int32.ofNat o)), .val (.int (Int32.ofNat len)), .val .null, .val (.ref s.heap.size)] [.ref s.heap.size, .ref a])) := (c12.trans (st13 _ (Steps.refl _))).trans (by
    refine XS.aloadN X13.here hexec rfl (hb hbytes d51) rfl rfl ?_
    refine XS.aload X13.here hexec rfl (hb hbytes d52) rfl rfl ?_
    exact Steps.refl _)
  obtain ⟨T15, X15, p15, bl15, sl15, st15⟩ := X13.finit hexec hown (wk W (.fieldLink "java/lang/String" 9 "java/lang/String" "value" "[B")) (Or.inr ⟨_, (wk W (.laysFinal "java/lang/String" "java/lang/String" "value" "[B"))⟩) (Or.inl ⟨rfl, hnm⟩) f1 (Or.inl rfl) bl13 (t := (.array .byte)) (by decide +kernel) rfl (g := (mkF m 54 #[.val (.ref a), .val (.ref b), .val (.int (Int32.ofNat o)), .val (.int (Int32.ofNat len)), .val .null, .val (.ref s.heap.size)] [.ref s.heap.size, .ref a])) rfl (rest := []) rfl (hb hbytes d54)
  have c16 : Steps p.tables e below (s₁.setTop (entryFrame m #[.ref a, .ref b, .int (Int32.ofNat o), .int (Int32.ofNat len), .null] 6)) (T15.setTop (mkF m 57 #[.val (.ref a), .val (.ref b), .val (.int (Int32.ofNat o)), .val (.int (Int32.ofNat len)), .val .null, .val (.ref s.heap.size)] [])) := c14.trans (st15 _ (Steps.refl _))
  have ap := apart (Or.inr ⟨_, (wk W (.laysFinal "java/lang/String" "java/lang/String" "value" "[B"))⟩) (Or.inr ⟨_, (wk W (.laysFinal "java/lang/String" "java/lang/String" "coder" "B"))⟩) f1 f2 (t₁ := .array .byte) (t₂ := .byte) (by decide +kernel) (by decide +kernel) (by decide)
  have al := X8.warmed.alike.symm.trans X15.warmed.alike
  have n7 : T11.heap[s.heap.size]? = some N := by rw [q11]; exact n1.1
  exact ⟨T15, none, _, _, _, X15, by simp, rfl, by omega, (fun _ => rfl), ⟨rfl, _, N, bl15, ((Same.refl D _).set _ (by simp)).set _ (by simp), sl15, (Cell.slots_setSlot_ne _ ap).trans sl13, n1.keep al (p15.other hne (p13.other hne n7)), n2, by rw [al.findClass]; exact n3, n4, n5, fun y c h1 h2 => p15.other h1 (p13.other h1 (by rw [q11]; exact n6 y c h2)), by rw [p15.2.2, p13.2.2, q11]; exact z8⟩, fun fs hl => c16.trans (X15.returnOut hexec hret (hb hbytes d57) hl)⟩
end New4
namespace New1
def yN : MethodName := ⟨"java/lang/String", "<init>", "([C)V"⟩
abbrev yB : ByteArray := jdk_42_method_3_code
theorem d0 : decode yB 0 = .ok (.aload_n 0, 1) := by decide +kernel
theorem d1 : decode yB 1 = .ok (.aload_n 1, 1) := by decide +kernel
theorem d2 : decode yB 2 = .ok (.iconst 0, 1) := by decide +kernel
theorem d3 : decode yB 3 = .ok (.aload_n 1, 1) := by decide +kernel
theorem d4 : decode yB 4 = .ok (.arraylength, 1) := by decide +kernel
theorem d5 : decode yB 5 = .ok (.aconst_null, 1) := by decide +kernel
theorem d6 : decode yB 6 = .ok (.invokespecial 27, 3) := by decide +kernel
theorem d9 : decode yB 9 = .ok (.return_, 1) := by decide +kernel
def site : List Cond := [New4.tab] ++ initW "java/lang/String" 27 New4.yN
def tab : Cond := tabOf yN yB 2 none site
def P (a : Addr) (D : Cell) (fV fC : Field) (b : Addr) (A : Cell) (z : Int32) (args : Array Value) (s : State) : Prop := args = #[.ref a, .ref b] ∧ Blank "java/lang/String" a D s ∧ Found "java/lang/String" "value" "[B" fV s ∧ Found "java/lang/String" "coder" "B" fC s ∧ Ch b A s ∧ StaticIs s "java/lang/String" "COMPACT_STRINGS" "Z" (.int z) ∧ ¬ z = 0 ∧ 0 < A.slots.size ∧ A.slots.size ≤ 536870912 ∧ ∀ i, i < A.slots.size → ¬ 255 < cv A i
def E (a : Addr) (D : Cell) (fV fC : Field) (A : Cell) (r : Option Value) (s u : State) : Prop := Got a D fV fC A 0 A.slots.size r s u
/-- new String(chars), not empty, no char above 255: a Latin-1 String of their low bytes -/
theorem law (l : Launch) (a : Addr) (D : Cell) (fV fC : Field) (b : Addr) (A : Cell) (z : Int32) : Law l yN 2 1 3 52 yB 2 none site (P a D fV fC b A z) (E a D fV fC A) [⟨a, fC.slot⟩, ⟨a, fV.slot⟩] 1 A.slots.size := by
  refine Law.of_walk (plainFor_of_name (by decide +kernel)) (by decide +kernel) (by decide +kernel) (by decide) (fun _ _ h => by rw [h.1]; rfl) (fun _ U U' hal hh h => ⟨h.1, h.2.1.mv hal hh, h.2.2.1.al hal, h.2.2.2.1.al hal, h.2.2.2.2.1.mv hal hh, h.2.2.2.2.2.1.there hal hh, h.2.2.2.2.2.2⟩) (fun r U U' V V' h1 hal h2 h => Got.mv r U U' V V' h1 hal h2 h) ?_
  intro p e s m args below meth c s₁ X0 hexec hbytes hml hret hlk hnm hown hh0 W hP
  obtain ⟨rfl, hB, f1, f2, hA, s1, hz, l0, l2, hp⟩ := hP
  have c1 : Steps p.tables e below (s₁.setTop (entryFrame m #[.ref a, .ref b] 2)) (s₁.setTop (mkF m 0 #[.val (.ref a), .val (.ref b)] [])) := entry rfl
  have c2 : Steps p.tables e below (s₁.setTop (entryFrame m #[.ref a, .ref b] 2)) (s₁.setTop (mkF m 6 #[.val (.ref a), .val (.ref b)] [.null, .int (Int32.ofNat A.slots.size), .int 0, .ref b, .ref a])) := c1.trans (by
    refine XS.aloadN X0.here hexec rfl (hb hbytes d0) rfl rfl ?_
    refine XS.aloadN X0.here hexec rfl (hb hbytes d1) rfl rfl ?_
    refine iconstV X0.here hexec rfl 0 (hb hbytes d2) (by decide) ?_
    refine XS.aloadN X0.here hexec rfl (hb hbytes d3) rfl rfl ?_
    refine X0.alen hexec (hA.1.mv X0.warmed.alike hh0) rfl rfl (hb hbytes d4) ?_
    refine XS.aconstNull X0.here hexec rfl (hb hbytes d5) ?_
    exact Steps.refl _)
  obtain ⟨v3, T3, X3, E3, g3⟩ := X0.callN hexec (New4.law l a D fV fC b A z 0 A.slots.size) rfl hown (wks W (initW "java/lang/String" 27 New4.yN)) (W New4.tab (by simp only [site, List.mem_cons, List.mem_append, true_or, or_true])) (W := 0) (Nat.le_of_ble_eq_true rfl) (Nat.le_of_ble_eq_true rfl) (Nat.le_refl _) (by show 0 + A.slots.size ≤ A.slots.size; omega) (g := (mkF m 6 #[.val (.ref a), .val (.ref b)] [.null, .int (Int32.ofNat A.slots.size), .int (Int32.ofNat 0), .ref b, .ref a])) rfl (by rw [hml]; rfl) c2 (argsL := [.ref b, .int (Int32.ofNat 0), .int (Int32.ofNat A.slots.size), .null]) (rest := []) rfl rfl (by show 2 * 0 + 0 ≤ _; decide) (hb hbytes d6) (⟨rfl, hB.mv X0.warmed.alike hh0, f1.al X0.warmed.alike, f2.al X0.warmed.alike, hA.mv X0.warmed.alike hh0, s1.there X0.warmed.alike hh0, hz, l0, by omega, l2, fun i hi => by rw [Nat.zero_add]; exact hp i hi⟩)
  have e0 := Got.mv _ s₁ s _ _ hh0.symm (Vm.Alike.refl _) rfl E3
  obtain rfl := e0.1
  have c4 : Steps p.tables e below (s₁.setTop (entryFrame m #[.ref a, .ref b] 2)) (T3.setTop (mkF m 9 #[.val (.ref a), .val (.ref b)] [])) := g3
  exact ⟨T3, none, _, _, _, X3, by simp, rfl, by omega, (fun _ => rfl), e0, fun fs hl => c4.trans (X3.returnOut hexec hret (hb hbytes d9) hl)⟩
theorem pays {l : Launch} {R : Room} {p : Program} {e : Env} {below : List Frame} {s : State} {sargs : Array Value} {len W : Nat} (a : Addr) (D : Cell) (fV fC : Field) (b : Addr) (A : Cell) (z : Int32) (htab : tab.before sargs s = true) (hfr : 4 ≤ R.frames) (hlo : W + 65 ≤ R.locals) :
    Back l R p e below s sargs yN len W (fun A₁ a₁ => A₁.cells + 1 ≤ R.cells ∧ A₁.slots + A.slots.size ≤ R.slots ∧ P a D fV fC b A z a₁ A₁.U) (fun A₁ _ v₁ B₁ => E a D fV fC A v₁ A₁.U B₁.U ∧ B₁.locs = A₁.locs ++ [⟨a, fC.slot⟩, ⟨a, fV.slot⟩] ∧ B₁.cells = A₁.cells + 1 ∧ B₁.slots = A₁.slots + A.slots.size) :=
  (law l a D fV fC b A z).pays htab hfr (by omega)
end New1
/-- the byte, read back as charAt reads it, is the char -/
theorem lo8_mask {x : Int32} (h0 : ¬ x < 0) (h1 : ¬ 255 < x) : lo8 x &&& 255 = x := by
  have t : ∀ k : Fin 256, lo8 (Int32.ofNat k.val) &&& 255 = Int32.ofNat k.val := by decide +kernel
  rw [Int32.lt_iff_toInt_lt] at h0 h1
  have e0 : (0 : Int32).toInt = 0 := rfl
  have e1 : (255 : Int32).toInt = 255 := rfl
  obtain ⟨k, hk⟩ : ∃ k : Nat, x.toInt = k := ⟨x.toInt.toNat, by omega⟩
  have hx : x = Int32.ofNat k := Int32.toInt_inj.mp (by rw [hk, Int32.toInt_ofNat_small (by omega)])
  rw [hx]
  exact t ⟨k, by omega⟩
end StrChars
namespace StrChars.Road
open Jvm Sem ClassFile Op Lib Jvm.Stand Jvm.Free Jvm.Free.XT
open Jvm.Lib.Cold (StaticIs)
abbrev ST : String := "java/lang/String"
/-- every table word that New1's law asks, flat -/
abbrev words : List Jvm.Cond := [.code New1.yN New1.yB 2 none, .initialized ST, .methodLink ST 27 New4.yN, .instanceMethod New4.yN,
  .code New4.yN New4.yB 6 none, .fieldLink ST 38 ST "COMPACT_STRINGS" "Z", .laysFinal ST ST "value" "[B", .fieldLink ST 9 ST "value" "[B", .laysFinal ST ST "coder" "B", .fieldLink ST 15 ST "coder" "B",
  .methodLink ST 1 Lib.objectInit, .instanceMethod Lib.objectInit, .code Lib.objectInit ⟨#[0xb1]⟩ 1 none, .methodLink ST 177 Cmp3.yN, .static Cmp3.yN, .methodLink ST 47 CodL.yN, .static CodL.yN,
  .code Cmp3.yN Cmp3.yB 6 (some (.array .byte)), .initialized U16, .arrayClass .byte, .methodLink U16 115 Cmp5.yN, .static Cmp5.yN, .code Cmp5.yN Cmp5.yB 7 (some .int), .code CodL.yN CodL.yB 2 (some .byte)]
theorem tab_of {a : Array Value} {s : State} (h : ∀ w ∈ words, w.before a s = true) : New1.tab.before a s = true := by
  have h5 : Cmp5.tab.before a s = true := unparts (wk h (.code Cmp5.yN Cmp5.yB 7 (some .int))) (wks h (.initialized Cmp5.yN.cls :: Cmp5.site))
  have hc : CodL.tab.before a s = true := unparts (wk h (.code CodL.yN CodL.yB 2 (some .byte))) (wks h (.initialized CodL.yN.cls :: CodL.site))
  have q5 : ∀ w ∈ Cmp5.tab :: words, w.before a s = true := fun w hw => (List.mem_cons.mp hw).elim (fun e => e ▸ h5) (h w)
  have h3 : Cmp3.tab.before a s = true := unparts (wk q5 (.code Cmp3.yN Cmp3.yB 6 (some (.array .byte)))) (wks q5 (.initialized Cmp3.yN.cls :: Cmp3.site))
  have q3 : ∀ w ∈ Cmp3.tab :: CodL.tab :: words, w.before a s = true := fun w hw => (List.mem_cons.mp hw).elim (fun e => e ▸ h3) fun hw => (List.mem_cons.mp hw).elim (fun e => e ▸ hc) (h w)
  have h4 : New4.tab.before a s = true := unparts (wk q3 (.code New4.yN New4.yB 6 none)) (wks q3 (.initialized New4.yN.cls :: New4.site))
  have q4 : ∀ w ∈ New4.tab :: words, w.before a s = true := fun w hw => (List.mem_cons.mp hw).elim (fun e => e ▸ h4) (h w)
  exact unparts (wk q4 (.code New1.yN New1.yB 2 none)) (wks q4 (.initialized New1.yN.cls :: New1.site))
/-- the words ride from the start Z to the walk's own state -/
theorem moved {Z s : State} {a0 args : Array Value} (hZ : Z.Warmed39 s.vm) (hw : ∀ d ∈ words, d.before a0 Z = true) : ∀ d ∈ words, d.before args s = true := fun d hd => by
  have q := hw d hd
  have t : ∀ d ∈ words, d = .arrayClass .byte ∨ (d.onTables && d.keepsFace) = true := by decide +kernel
  rcases t d hd with rfl | t
  · exact RoadKit.mvA hZ q
  · exact RoadKit.mv hZ q t
/-- WHAT COMES BACK, over the tables of the start Z: h the heap at the call, h' behind it -/
def Q (Z : State) (x : Addr) (A : Cell) (h : Heap) (v : Option Value) (h' : Heap) (L : List Loc) : Prop := v = none ∧ (∀ y ∈ L, y.base = x) ∧ RoadKit.Keep h h' [x] ∧ h'.size = h.size + 1 ∧ RoadKit.Exa Z h' x ST ∧ RoadKit.Fld Z h' x ST "value" "[B" (.ref h.size) ∧ RoadKit.Fld Z h' x ST "coder" "B" (.int 0) ∧
  (∃ V : Cell, RoadKit.Arr Z h' h.size V .byte ∧ V.vm = .none ∧ Z.vm.findClass "[B" = some V.cls ∧ V.slots.size = A.slots.size ∧ ∀ j, j < A.slots.size → V.slots[j]? = some (.int (lo8 (cv A j)))) ∧
  ∀ (O n d : String) (w : Value), RoadKit.Fld Z h x O n d w → RoadKit.slotOf Z O n d ≠ RoadKit.slotOf Z ST "value" "[B" → RoadKit.slotOf Z O n d ≠ RoadKit.slotOf Z ST "coder" "B" → RoadKit.Fld Z h' x O n d w
/-- **new String(chars) AT A CALL, IN THE ROAD'S FORM**: for specialBack behind newO: x the fresh String, b the char[] with the cell A -/
theorem back {p : Program} {l : Launch} {e : Env} {R : Room} {s : State} {args : Array Value} {below : List Frame} {len W : Nat} {Z : State} {a0 : Array Value} {h : Heap} (hZ : Z.Warmed39 s.vm) (hw : ∀ d ∈ words, d.before a0 Z = true) {kI : Nat} (wi : (Jvm.Cond.instantiable ST kI).before a0 Z = true)
    {x b : Addr} {A : Cell} {z : Int32} {v0 c0 : Value} (E : RoadKit.Exa Z h x ST) (V : RoadKit.Fld Z h x ST "value" "[B" v0) (C : RoadKit.Fld Z h x ST "coder" "B" c0) (K : RoadKit.Arr Z h b A .char) (hty : Typed .char A) (S : RoadKit.Sta Z h ST "COMPACT_STRINGS" "Z" (.int z)) (hz : ¬ z = 0)
    (l0 : 0 < A.slots.size) (l2 : A.slots.size ≤ 536870912) (hp : ∀ i, i < A.slots.size → ¬ 255 < cv A i) (hfr : 4 ≤ R.frames) (hlo : W + 65 ≤ R.locals) :
    Back l R p e below s args New1.yN len W (fun P a => a = #[.ref x, .ref b] ∧ P.U.heap = h ∧ P.cells + 1 ≤ R.cells ∧ P.slots + A.slots.size ≤ R.slots)
      (fun P _ v B => ∃ L, Q Z x A h v B.U.heap L ∧ B.locs = P.locs ++ L ∧ B.cells = P.cells + 1 ∧ B.slots = P.slots + A.slots.size) := by
  intro m meth c P g ig mk a X hg hsize hdg hW hn hp'
  obtain ⟨rfl, rfl, r1, r2⟩ := hp'
  have al : Z.vm.Alike P.U.vm := hZ.alike.trans X.warmed.alike
  obtain ⟨D, cfV, kV, iV, fV, hD, gV, stV, knV, obV, asV, slV⟩ := id V
  obtain ⟨D', cfC, kC, iC, fC, hD', gC, stC, -, -, asC, slC⟩ := id C
  cases hD.symm.trans hD'
  obtain ⟨D2, kD, e1, e2, e3, e4, e5⟩ := id E
  cases hD.symm.trans e1
  obtain ⟨c2, k2, i1, i2, i3, -⟩ := Cond.instantiable_spec wi
  cases e2.symm.trans i1
  cases e3.symm.trans i2
  obtain ⟨kU, u1, u2⟩ := al.2.2 _ _ e3
  have hB : Blank ST x D P.U := ⟨hD, ⟨knV, fun q hq => by rw [hq] at obV; cases obV⟩, by rw [al.findClass]; exact e2, kU, u1, by rw [u2]; exact i3, by rw [u2]; exact e5 i3⟩
  have F1 : Found ST "value" "[B" fV P.U := ⟨SBG.found_only al ⟨cfV, kV, iV, gV⟩, stV⟩
  have F2 : Found ST "coder" "B" fC P.U := ⟨SBG.found_only al ⟨cfC, kC, iC, gC⟩, stC⟩
  have hA : Ch b A P.U := ⟨⟨K.1, State.isArrayOf_alike al K.2.1, K.2.2, by omega⟩, hty⟩
  have hS : StaticIs P.U ST "COMPACT_STRINGS" "Z" (.int z) := by
    obtain ⟨cfS, iS, kS, fS, st, cS, t1, t2, t3, t4, t5, t6, t7⟩ := S
    exact StaticIs.there (s := { Z with heap := P.U.heap }) ⟨cfS, iS, kS, fS, st, cS, t1, t2, t3, t4, t5, (fun q => by rw [q] at t6; cases t6), t7⟩ al rfl
  obtain ⟨v, B, X', ⟨⟨hv, E', V', q1, q2, q3, q4, q5, q6, q7, q8, q9, q10, q11⟩, hl, hc, hs⟩, st⟩ := New1.pays x D fV fC b A z (tab_of (moved hZ hw)) hfr hlo m meth c P g ig mk _ X hg hsize hdg hW hn ⟨r1, r2, rfl, hB, F1, F2, hA, hS, hz, l0, l2, hp⟩
  have al' : Z.vm.Alike B.U.vm := hZ.alike.trans X'.warmed.alike
  have hsz : E'.slots.size = D.slots.size := by
    obtain ⟨-, -, -, kB, w1, w2, w3⟩ := q1
    obtain ⟨kB', y1, y2⟩ := al'.2.2 _ _ e3
    rw [q2.2.1] at w1
    cases w1.symm.trans y1
    rw [w3, e5 i3, y2]
  refine ⟨v, B, X', ⟨_, ⟨hv, ?_, ⟨by omega, fun y cy hy hn' => q10 y cy (by simpa using hn') hy, fun y cy hy => ?_⟩, q11, ⟨E', _, q1.1, by rw [q2.2.1]; exact e2, by rw [q2.2.1]; exact e3, by rw [q2.1]; exact obV, fun _ => by rw [hsz]; exact e5 i3⟩,
    ⟨E', cfV, kV, iV, fV, q1.1, gV, stV, by rw [q2.1]; exact knV, by rw [q2.1]; exact obV, by rw [q2.2.1]; exact asV, q3⟩, ⟨E', cfC, kC, iC, fC, q1.1, gC, stC, by rw [q2.1]; exact knV, by rw [q2.1]; exact obV, by rw [q2.2.1]; exact asC, q4⟩,
    ⟨V', ⟨q5.1, State.isArrayOf_alike al'.symm q5.2.1, q5.2.2.1⟩, q6, by rw [← al'.findClass]; exact q7, q8, fun j hj => by have := q9 j hj; rwa [Nat.zero_add] at this⟩, fun O n d w F n1 n2 => ?_⟩, hl, hc, hs⟩, st⟩
  · intro y hy
    simp only [List.mem_cons, List.not_mem_nil, or_false] at hy
    rcases hy with rfl | rfl <;> rfl
  · by_cases q : y = x
    · subst q
      cases hD.symm.trans hy
      exact ⟨E', q1.1, q2.2.1, q2.1, hsz⟩
    · exact ⟨cy, q10 y cy q hy, rfl, rfl, rfl⟩
  · obtain ⟨D3, cf, k, i, f, g1, g2, g3, g4, g5, g6, g7⟩ := F
    cases hD.symm.trans g1
    simp only [RoadKit.slotOf, g2, gV, gC, Option.map_some, Option.getD_some] at n1 n2
    exact ⟨E', cf, k, i, f, q1.1, g2, g3, by rw [q2.1]; exact g4, by rw [q2.1]; exact g5, by rw [q2.2.1]; exact g6, by rw [q2.2.2 f.slot (by simp [n1, n2])]; exact g7⟩
end StrChars.Road
namespace StrChars.Road
open Jvm Sem ClassFile Op Lib Jvm.Stand Jvm.Free Jvm.Free.XT
/-- WHAT COMES BACK, the byte[] as a list of values -/
def QA (Z : State) (x : Addr) (zn : Int32) (cs : List Int32) (h : Heap) (v : Option Value) (h' : Heap) (L : List Loc) : Prop := v = none ∧ (∀ y ∈ L, y.base = x) ∧ RoadKit.Keep h h' [x] ∧ h'.size = h.size + 1 ∧ RoadKit.Exa Z h' x ST ∧ RoadKit.Fld Z h' x ST "value" "[B" (.ref h.size) ∧ RoadKit.Fld Z h' x ST "coder" "B" (.int 0) ∧
  (∃ kb, Z.vm.findClass "[B" = some kb ∧ RoadKit.Arv Z h' h.size kb .byte zn (cs.map fun c => .int (lo8 c)) (.int 0)) ∧
  ∀ (O n d : String) (w : Value), RoadKit.Fld Z h x O n d w → RoadKit.slotOf Z O n d ≠ RoadKit.slotOf Z ST "value" "[B" → RoadKit.slotOf Z O n d ≠ RoadKit.slotOf Z ST "coder" "B" → RoadKit.Fld Z h' x O n d w
/-- **new String(chars) AT A CALL, THE ARRAYS AS LISTS**: the char[] at b holds cs, not empty, no char above 255 -/
theorem backArv {p : Program} {l : Launch} {e : Env} {R : Room} {s : State} {args : Array Value} {below : List Frame} {len W : Nat} {Z : State} {a0 : Array Value} {h : Heap} (hZ : Z.Warmed39 s.vm) (hw : ∀ d ∈ words, d.before a0 Z = true) {kI : Nat} (wi : (Jvm.Cond.instantiable ST kI).before a0 Z = true)
    {x b : Addr} {k : ClassId} {zn z : Int32} {cs : List Int32} {dv v0 c0 : Value} (E : RoadKit.Exa Z h x ST) (V : RoadKit.Fld Z h x ST "value" "[B" v0) (C : RoadKit.Fld Z h x ST "coder" "B" c0) (K : RoadKit.Arv Z h b k .char zn (cs.map Value.int) dv) (S : RoadKit.Sta Z h ST "COMPACT_STRINGS" "Z" (.int z)) (hz : ¬ z = 0)
    (hlen : zn.toNatClampNeg = cs.length) (h0 : 0 < cs.length) (hbig : cs.length ≤ 536870912) (hall : ∀ c ∈ cs, ¬ 255 < c) (hfr : 4 ≤ R.frames) (hlo : W + 65 ≤ R.locals) :
    Back l R p e below s args New1.yN len W (fun P a => a = #[.ref x, .ref b] ∧ P.U.heap = h ∧ P.cells + 1 ≤ R.cells ∧ P.slots + cs.length ≤ R.slots)
      (fun P _ v B => ∃ L, QA Z x zn cs h v B.U.heap L ∧ B.locs = P.locs ++ L ∧ B.cells = P.cells + 1 ∧ B.slots = P.slots + cs.length) := by
  obtain ⟨A, K1, K2, K3, K4, K5, K6⟩ := K
  have e : A.slots.size = cs.length := K3.trans hlen
  have hat : ∀ (i : Nat) (hi : i < cs.length), A.slots[i]? = some (.int cs[i]) := fun i hi => by rw [K5 i (by omega)]; simp [List.getD_eq_getElem?_getD, hi]
  have hcv : ∀ (i : Nat) (hi : i < cs.length), cv A i = cs[i] := fun i hi => by unfold cv; rw [hat i hi]
  have hty : Typed .char A := fun i v hv => by
    have hi : i < A.slots.size := (Array.getElem?_eq_some_iff.mp hv).1
    have q := K5 i hi
    rw [hv] at q
    rw [Option.some.inj q]
    exact K6 i hi
  refine Back.mono (back hZ hw wi E V C K1 hty S hz (by omega) (by omega) (fun i hi => by rw [hcv i (by omega)]; exact hall _ (List.getElem_mem _)) hfr hlo) (fun P a hp => ⟨hp.1, hp.2.1, hp.2.2.1, by rw [e]; exact hp.2.2.2⟩) (fun P a v B hp hq => ?_)
  obtain ⟨L, ⟨q1, q2, q3, q4, q5, q6, q7, ⟨V', v1, v2, v3, v4, v5⟩, q9⟩, hl, hc, hs⟩ := hq
  refine ⟨L, ⟨q1, q2, q3, q4, q5, q6, q7, ⟨V'.cls, v3, V', v1, rfl, by rw [v4, e, hlen], K4, fun i hi => ?_, fun i hi => ?_⟩, q9⟩, hl, hc, by rw [hs, e]⟩
  · have hi' : i < cs.length := by omega
    rw [v5 i (by omega), hcv i hi']; simp [List.getD_eq_getElem?_getD, hi']
  · have hi' : i < cs.length := by omega
    simp only [List.getD_eq_getElem?_getD, List.getElem?_map, List.getElem?_eq_getElem hi', Option.map_some, Option.getD_some]
    exact fits_lo8 _
end StrChars.Road
namespace StrChars.Road
open Jvm Sem ClassFile Op Lib Jvm.Stand Jvm.Free Jvm.Free.XT
/-- WHAT COMES BACK, in the writer's own shape -/
def QV (Z : State) (x : Addr) (N : Int32) (bs : List Int32) (h : Heap) (n0 : Nat) (v : Option Value) (h' : Heap) (L : List Loc) : Prop := v = none ∧ RoadKit.Fr n0 L ∧ RoadKit.Keep h h' [x] ∧ RoadKit.Exa Z h' x ST ∧ RoadKit.Fld Z h' x ST "coder" "B" (.int 0) ∧
  ∃ (t : Addr) (kb : ClassId), n0 ≤ t ∧ h.size ≤ t ∧ ¬ t = x ∧ RoadKit.Fld Z h' x ST "value" "[B" (.ref t) ∧ RoadKit.Arv Z h' t kb .byte N (bs.map Value.int) (.int 0)
/-- **new String(chars) AT A CALL, FOR THE WRITER**: a char[] of n known ints, each 0 to 255 -/
theorem backV {p : Program} {l : Launch} {e : Env} {R : Room} {s : State} {args : Array Value} {below : List Frame} {len W : Nat} {Z : State} {a0 : Array Value} {h : Heap} (hZ : Z.Warmed39 s.vm) (hw : ∀ d ∈ words, d.before a0 Z = true) {kI : Nat} (wi : (Jvm.Cond.instantiable ST kI).before a0 Z = true)
    {x b : Addr} {kC : ClassId} {cs bs : List Int32} {d v0 c0 : Value} {z N : Int32} {n n0 : Nat} (hx0 : n0 ≤ x) (hh0 : n0 ≤ h.size) (E : RoadKit.Exa Z h x ST) (V : RoadKit.Fld Z h x ST "value" "[B" v0) (C : RoadKit.Fld Z h x ST "coder" "B" c0) (K : RoadKit.Arv Z h b kC .char N (cs.map Value.int) d) (S : RoadKit.Sta Z h ST "COMPACT_STRINGS" "Z" (.int z)) (hz : ¬ z = 0)
    (hn : cs.length = n) (hN : N = Int32.ofNat n) (l0 : 0 < n) (l2 : n ≤ 4000) (hp : ∀ c ∈ cs, ¬ c < 0 ∧ ¬ (255 : Int32) < c) (hb : bs = cs.map (fun c => c.toInt8.toInt32)) (hfr : 4 ≤ R.frames) (hlo : W + 65 ≤ R.locals) :
    Back l R p e below s args (⟨"java/lang/String", "<init>", "([C)V"⟩ : MethodName) len W (fun P a => a = #[.ref x, .ref b] ∧ P.U.heap = h ∧ P.cells + 1 ≤ R.cells ∧ P.slots + n ≤ R.slots)
      (fun P _ v B => ∃ L, QV Z x N bs h n0 v B.U.heap L ∧ B.locs = P.locs ++ L ∧ B.cells = P.cells + 1 ∧ B.slots = P.slots + n) := by
  subst hn hN hb
  refine Back.mono (backArv hZ hw wi E V C K S hz (n32 (by omega)) l0 (by omega) (fun c hc => (hp c hc).2) hfr hlo) (fun P a hp => hp) (fun P a v B hp hq => ?_)
  obtain ⟨L, ⟨q1, q2, q3, q4, q5, q6, q7, ⟨kb, v1, v2⟩, q9⟩, hl, hc, hs⟩ := hq
  exact ⟨L, ⟨q1, fun y hy => by rw [q2 y hy]; exact hx0, q3, q5, q7, h.size, kb, hh0, Nat.le_refl _, Nat.ne_of_gt E.lt, q6, by rw [List.map_map]; exact v2⟩, hl, hc, hs⟩
end StrChars.Road
namespace StrChars
open Jvm Sem ClassFile Op Lib Jvm.Stand Jvm.Free.XT Jvm.Free.ALB Jvm.Free.JM Jvm.Free
open Jvm.Lib.Cold (StaticIs)
def hi8 (x : Int32) : Int32 := lo8 (x >>> ((8 : Int32) &&& 31))
/-- what StringUTF16.getChar makes of two bytes -/
def pairCh (u v : Int32) : Int32 := (((u &&& 255) <<< ((0 : Int32) &&& 31)) ||| ((v &&& 255) <<< ((8 : Int32) &&& 31))).toUInt32.toUInt16.toUInt32.toInt32
theorem shr0 (c : Int32) : c >>> ((0 : Int32) &&& 31) = c := by
  have e : ((0 : Int32) &&& 31) = 0 := by decide
  rw [e]
  apply Int32.toBitVec_inj.mp
  rw [Int32.toBitVec_shiftRight]
  have e1 : ((0 : Int32).toBitVec.smod 32) = 0#32 := by decide
  rw [e1, BitVec.sshiftRight_eq']
  exact BitVec.sshiftRight_zero
theorem lo8_and (x : Int32) : (lo8 x &&& 255).toBitVec.toNat = x.toBitVec.toNat % 256 := by
  have h : (lo8 x).toBitVec = (x.toBitVec.signExtend 8).signExtend 32 := by rw [lo8, Int8.toBitVec_toInt32, Int32.toBitVec_toInt8]
  rw [Int32.toBitVec_and, BitVec.toNat_and, h]
  have e : ((x.toBitVec.signExtend 8).signExtend 32).toNat % 256 = x.toBitVec.toNat % 256 := by
    rw [BitVec.toNat_signExtend]
    have hlt := x.toBitVec.isLt
    simp only [BitVec.toNat_setWidth, BitVec.toNat_signExtend]
    split <;> split <;> omega
  rw [← e]
  exact Nat.and_two_pow_sub_one_eq_mod _ 8
theorem pair_says {c : Int32} (h0 : ¬ c < 0) (h1 : ¬ 65535 < c) : pairCh (lo8 c) (hi8 c) = c := by
  rw [Int32.lt_iff_toInt_lt] at h0 h1
  have e0 : (0 : Int32).toInt = 0 := rfl
  have e1 : (65535 : Int32).toInt = 65535 := rfl
  have hc : c.toInt = c.toBitVec.toNat := by
    have := c.toBitVec.isLt
    have e : c.toInt = c.toBitVec.toInt := rfl
    rw [e] at h0 h1
    rw [e]
    rw [BitVec.toInt_eq_toNat_cond] at h0 h1 ⊢
    split at h0 <;> split <;> omega
  have hn : c.toBitVec.toNat < 65536 := by omega
  have a1 := lo8_and c
  have a2 : (hi8 c &&& 255).toBitVec.toNat = c.toBitVec.toNat / 256 := by
    rw [hi8, lo8_and]
    have e : ((8 : Int32) &&& 31) = 8 := by decide
    rw [e, Int32.toBitVec_shiftRight]
    have e2 : ((8 : Int32).toBitVec.smod 32) = 8#32 := by decide
    rw [e2, BitVec.sshiftRight_eq', BitVec.toNat_sshiftRight_of_msb_false (by rw [BitVec.msb_eq_false_iff_two_mul_lt]; omega)]
    show c.toBitVec.toNat >>> 8 % 256 = _
    rw [Nat.shiftRight_eq_div_pow]
    omega
  unfold pairCh
  apply Int32.toBitVec_inj.mp
  apply BitVec.eq_of_toNat_eq
  have f0 : ((0 : Int32) &&& 31) = 0 := by decide
  have f8 : ((8 : Int32) &&& 31) = 8 := by decide
  rw [f0, f8]
  have g : (((lo8 c &&& 255) <<< (0 : Int32)) ||| ((hi8 c &&& 255) <<< (8 : Int32))).toBitVec.toNat = c.toBitVec.toNat := by
    rw [Int32.toBitVec_or, Int32.toBitVec_shiftLeft, Int32.toBitVec_shiftLeft]
    have s0 : ((0 : Int32).toBitVec.smod 32) = 0#32 := by decide
    have s8 : ((8 : Int32).toBitVec.smod 32) = 8#32 := by decide
    rw [s0, s8, BitVec.toNat_or]
    simp only [BitVec.shiftLeft_eq', BitVec.toNat_shiftLeft, a1, a2]
    show (c.toBitVec.toNat % 256) <<< 0 % 2 ^ 32 ||| (c.toBitVec.toNat / 256) <<< 8 % 2 ^ 32 = _
    rw [Nat.shiftLeft_zero, Nat.mod_eq_of_lt (show c.toBitVec.toNat % 256 < 2 ^ 32 by omega), Nat.mod_eq_of_lt (show (c.toBitVec.toNat / 256) <<< 8 < 2 ^ 32 by rw [Nat.shiftLeft_eq]; omega), Nat.or_comm, ← Nat.shiftLeft_add_eq_or_of_lt (by omega), Nat.shiftLeft_eq]
    omega
  show BitVec.toNat (((((lo8 c &&& 255) <<< (0 : Int32)) ||| ((hi8 c &&& 255) <<< (8 : Int32))).toBitVec.setWidth 16).setWidth 32) = _
  rw [BitVec.toNat_setWidth, BitVec.toNat_setWidth, g]
  omega
end StrChars
namespace StrChars
open Jvm Sem ClassFile Op Lib Jvm.Stand Jvm.Free.XT Jvm.Free.ALB Jvm.Free.JM Jvm.Free
open Jvm.Lib.Cold (StaticIs)
theorem shr1 {n : Nat} (h : 2 * n < 2 ^ 31) : Int32.ofNat (2 * n) >>> ((1 : Int32) &&& 31) = Int32.ofNat n := by
  have e : ((1 : Int32) &&& 31) = 1 := by decide
  rw [e]
  apply Int32.toBitVec_inj.mp
  rw [Int32.toBitVec_shiftRight]
  have e1 : ((1 : Int32).toBitVec.smod 32) = 1#32 := by decide
  have hm : (BitVec.ofNat 32 (2 * n)).toNat = 2 * n := by rw [BitVec.toNat_ofNat, Nat.mod_eq_of_lt (by omega)]
  rw [e1, BitVec.sshiftRight_eq']
  apply BitVec.eq_of_toNat_eq
  show ((BitVec.ofNat 32 (2 * n)).sshiftRight 1).toNat = (BitVec.ofNat 32 n).toNat
  rw [BitVec.toNat_sshiftRight_of_msb_false (by rw [BitVec.msb_eq_false_iff_two_mul_lt, hm]; omega), hm, BitVec.toNat_ofNat, Nat.shiftRight_eq_div_pow]
  omega
/-- charAt's cast of a byte read back -/
def chr8 (u : Int32) : Int32 := (u &&& 255).toUInt32.toUInt16.toUInt32.toInt32
theorem chr8_lo8 {c : Int32} (h0 : ¬ c < 0) (h1 : ¬ 255 < c) : chr8 (lo8 c) = c := by
  have t : ∀ k : Fin 256, (Int32.ofNat k.val).toUInt32.toUInt16.toUInt32.toInt32 = Int32.ofNat k.val := by decide +kernel
  unfold chr8
  rw [lo8_mask h0 h1]
  rw [Int32.lt_iff_toInt_lt] at h0 h1
  have e0 : (0 : Int32).toInt = 0 := rfl
  have e1 : (255 : Int32).toInt = 255 := rfl
  obtain ⟨k, hk⟩ : ∃ k : Nat, c.toInt = k := ⟨c.toInt.toNat, by omega⟩
  have hx : c = Int32.ofNat k := Int32.toInt_inj.mp (by rw [hk, Int32.toInt_ofNat_small (by omega)])
  rw [hx]
  exact t ⟨k, by omega⟩
theorem narrow_ch {c : Int32} (h0 : ¬ c < 0) (h1 : ¬ 65535 < c) : narrow .char (.int c) = .int c := by
  have q : narrow .char (.int (pairCh (lo8 c) (hi8 c))) = .int (pairCh (lo8 c) (hi8 c)) := narrow_c _
  rwa [pair_says h0 h1] at q
/-- the array's cell V codes the n chars f 0 .. f (n - 1) by the coder cd, as the JDK does: coder 1 just where some char is above 255 -/
def Cod (cd : Int32) (n : Nat) (f : Nat → Int32) (V : Cell) : Prop := (cd = 0 ∧ V.slots.size = n ∧ ∀ j, j < n → V.slots[j]? = some (.int (lo8 (f j))) ∧ ¬ 255 < f j) ∨ (cd = 1 ∧ V.slots.size = 2 * n ∧ (∀ j, j < n → V.slots[2 * j]? = some (.int (lo8 (f j))) ∧ V.slots[2 * j + 1]? = some (.int (hi8 (f j)))) ∧ ∃ j, j < n ∧ 255 < f j)
theorem Cod.cd {cd : Int32} {n : Nat} {f : Nat → Int32} {V : Cell} (h : Cod cd n f V) : cd = 0 ∨ cd = 1 := h.imp (fun q => q.1) fun q => q.1
theorem Cod.len {cd : Int32} {n : Nat} {f : Nat → Int32} {V : Cell} (h : Cod cd n f V) (hs : V.slots.size < 2 ^ 31) : Int32.ofNat V.slots.size >>> (cd &&& 31) = Int32.ofNat n := by
  rcases h with ⟨rfl, h, -⟩ | ⟨rfl, h, -⟩
  · rw [shr0, h]
  · rw [h, shr1 (by omega)]
/-- **x is a String of the n chars f 0 .. f (n - 1)**, Latin-1 or UTF-16; its array at t has the cell V -/
def Txt (x t : Addr) (V : Cell) (cd : Int32) (n : Nat) (f : Nat → Int32) (U : State) : Prop := Exact "java/lang/String" x U ∧ Has x "java/lang/String" "value" "[B" (.ref t) U ∧ Has x "java/lang/String" "coder" "B" (.int cd) U ∧ XT.Arr .byte t V U ∧ Cod cd n f V ∧ ∀ j, j < n → ¬ f j < 0 ∧ ¬ 65535 < f j
theorem Txt.mv {x t : Addr} {V : Cell} {cd : Int32} {n : Nat} {f : Nat → Int32} {U U' : State} (h : Txt x t V cd n f U) (hal : U.vm.Alike U'.vm) (hh : U'.heap = U.heap) : Txt x t V cd n f U' := ⟨h.1.mv hal hh, h.2.1.mv hal hh, h.2.2.1.mv hal hh, h.2.2.2.1.mv hal hh, h.2.2.2.2⟩
namespace Cdr
def yN : MethodName := ⟨"java/lang/String", "coder", "()B"⟩
abbrev yB : ByteArray := jdk_42_method_152_code
theorem d0 : decode yB 0 = .ok (.getstatic 38, 3) := by decide +kernel
theorem d3 : decode yB 3 = .ok (.ifCond (.eq) 10, 3) := by decide +kernel
theorem d6 : decode yB 6 = .ok (.aload_n 0, 1) := by decide +kernel
theorem d7 : decode yB 7 = .ok (.getfield 15, 3) := by decide +kernel
theorem d10 : decode yB 10 = .ok (.goto 4, 3) := by decide +kernel
theorem d14 : decode yB 14 = .ok (.ireturn, 1) := by decide +kernel
def site : List Cond := [.fieldLink "java/lang/String" 38 "java/lang/String" "COMPACT_STRINGS" "Z", .fieldLink "java/lang/String" 15 "java/lang/String" "coder" "B"]
def tab : Cond := tabOf yN yB 1 (some .byte) site
def P (x : Addr) (cd z : Int32) (args : Array Value) (s : State) : Prop := args = #[.ref x] ∧ Has x "java/lang/String" "coder" "B" (.int cd) s ∧ (cd = 0 ∨ cd = 1) ∧ StaticIs s "java/lang/String" "COMPACT_STRINGS" "Z" (.int z) ∧ ¬ z = 0
def E (cd : Int32) (r : Option Value) (s u : State) : Prop := XT.PureE (some (.int cd)) r s u
theorem law (l : Launch) (x : Addr) (cd z : Int32) : Law l yN 1 0 0 0 yB 1 (some .byte) site (P x cd z) (E cd) [] 0 0 := by
  refine Law.of_walk (plainFor_of_name (by decide +kernel)) (by decide +kernel) (by decide +kernel) (by decide) (fun _ _ h => by rw [h.1]; rfl) (fun _ U U' hal hh h => ⟨h.1, h.2.1.mv hal hh, h.2.2.1, h.2.2.2.1.there hal hh, h.2.2.2.2⟩) (fun r U U' V V' h1 hal h2 h => XT.PureE.mv r U U' V V' h1 hal h2 h) ?_
  intro p e s m args below meth c s₁ X0 hexec hbytes hml hret hlk hnm hown hh0 W hP
  obtain ⟨rfl, hx, hc, s1, hz⟩ := hP
  have c1 : Steps p.tables e below (s₁.setTop (entryFrame m #[.ref x] 1)) (s₁.setTop (mkF m 0 #[.val (.ref x)] [])) := entry rfl
  obtain ⟨T2, X2, q2, st2⟩ := X0.sget hexec hown (wk W (.fieldLink "java/lang/String" 38 "java/lang/String" "COMPACT_STRINGS" "Z")) s1 (fun _ _ h => by rw [hh0]; exact h) (g := (mkF m 0 #[.val (.ref x)] [])) rfl (hb hbytes d0)
  have hh2 := q2.trans hh0
  have c3 : Steps p.tables e below (s₁.setTop (entryFrame m #[.ref x] 1)) (T2.setTop (mkF m 7 #[.val (.ref x)] [.ref x])) := (c1.trans (st2 _ (Steps.refl _))).trans (by
    refine XS.ifNo X2.here hexec rfl (hb hbytes d3) rfl (i0_eq_f hz) ?_
    refine XS.aloadN X2.here hexec rfl (hb hbytes d6) rfl rfl ?_
    exact Steps.refl _)
  obtain ⟨T4, X4, q4, st4⟩ := X2.hget hexec hown (wk W (.fieldLink "java/lang/String" 15 "java/lang/String" "coder" "B")) (hx.mv X2.warmed.alike hh2) (g := (mkF m 7 #[.val (.ref x)] [.ref x])) rfl (rest := []) rfl (hb hbytes d7)
  have c5 : Steps p.tables e below (s₁.setTop (entryFrame m #[.ref x] 1)) (T4.setTop (mkF m 14 #[.val (.ref x)] [.int cd])) := (c3.trans (st4 _ (Steps.refl _))).trans (by
    refine XS.goto X4.here hexec rfl (pc0 := 10) rfl (hb hbytes d10) (by decide) rfl ?_
    exact Steps.refl _)
  exact ⟨T4, some (.int cd), _, _, _, X4, rfl, rfl, rfl, (fun h => by cases h), ⟨rfl, q4.trans hh2⟩, fun fs hl => c5.trans (X4.ireturnOut hexec hret (by rcases hc with rfl | rfl <;> rfl) (Or.inr (Or.inr (Or.inl rfl))) (hb hbytes d14) hl)⟩
end Cdr
namespace Len
def yN : MethodName := ⟨"java/lang/String", "length", "()I"⟩
abbrev yB : ByteArray := jdk_42_method_54_code
theorem d0 : decode yB 0 = .ok (.aload_n 0, 1) := by decide +kernel
theorem d1 : decode yB 1 = .ok (.getfield 9, 3) := by decide +kernel
theorem d4 : decode yB 4 = .ok (.arraylength, 1) := by decide +kernel
theorem d5 : decode yB 5 = .ok (.aload_n 0, 1) := by decide +kernel
theorem d6 : decode yB 6 = .ok (.invokevirtual 335, 3) := by decide +kernel
theorem d9 : decode yB 9 = .ok (.ishr, 1) := by decide +kernel
theorem d10 : decode yB 10 = .ok (.ireturn, 1) := by decide +kernel
def site : List Cond := [.fieldLink "java/lang/String" 9 "java/lang/String" "value" "[B", Cdr.tab] ++ virtW "java/lang/String" 335 "java/lang/String" Cdr.yN Cdr.yN
def tab : Cond := tabOf yN yB 1 (some .int) site
def P (x t : Addr) (V : Cell) (cd : Int32) (n : Nat) (f : Nat → Int32) (z : Int32) (args : Array Value) (s : State) : Prop := args = #[.ref x] ∧ Txt x t V cd n f s ∧ StaticIs s "java/lang/String" "COMPACT_STRINGS" "Z" (.int z) ∧ ¬ z = 0
def E (n : Nat) (r : Option Value) (s u : State) : Prop := XT.PureE (some (.int (Int32.ofNat n))) r s u
/-- length() of a String of n chars, in either coding -/
theorem law (l : Launch) (x t : Addr) (V : Cell) (cd : Int32) (n : Nat) (f : Nat → Int32) (z : Int32) : Law l yN 1 0 1 13 yB 1 (some .int) site (P x t V cd n f z) (E n) [] 0 0 := by
  refine Law.of_walk (plainFor_of_name (by decide +kernel)) (by decide +kernel) (by decide +kernel) (by decide) (fun _ _ h => by rw [h.1]; rfl) (fun _ U U' hal hh h => ⟨h.1, h.2.1.mv hal hh, h.2.2.1.there hal hh, h.2.2.2⟩) (fun r U U' V V' h1 hal h2 h => XT.PureE.mv r U U' V V' h1 hal h2 h) ?_
  intro p e s m args below meth c s₁ X0 hexec hbytes hml hret hlk hnm hown hh0 W hP
  obtain ⟨rfl, hx, s1, hz⟩ := hP
  have v31 := hx.2.2.2.1.2.2.2
  have c1 : Steps p.tables e below (s₁.setTop (entryFrame m #[.ref x] 1)) (s₁.setTop (mkF m 1 #[.val (.ref x)] [.ref x])) := Steps.trans (entry rfl) (by
    show Steps p.tables e below (s₁.setTop (mkF m 0 #[.val (.ref x)] [])) _
    refine XS.aloadN X0.here hexec rfl (hb hbytes d0) rfl rfl ?_
    exact Steps.refl _)
  obtain ⟨T2, X2, q2, st2⟩ := X0.hget hexec hown (wk W (.fieldLink "java/lang/String" 9 "java/lang/String" "value" "[B")) (hx.mv X0.warmed.alike hh0).2.1 (g := (mkF m 1 #[.val (.ref x)] [.ref x])) rfl (rest := []) rfl (hb hbytes d1)
  have hh2 := q2.trans hh0
  have hx2 := hx.mv X2.warmed.alike hh2
  have c3 : Steps p.tables e below (s₁.setTop (entryFrame m #[.ref x] 1)) (T2.setTop (mkF m 6 #[.val (.ref x)] [.ref x, .int (Int32.ofNat V.slots.size)])) := (c1.trans (st2 _ (Steps.refl _))).trans (by
    refine X2.alen hexec hx2.2.2.2.1 rfl rfl (hb hbytes d4) ?_
    refine XS.aloadN X2.here hexec rfl (hb hbytes d5) rfl rfl ?_
    exact Steps.refl _)
  obtain ⟨v4, T4, X4, E4, g4⟩ := X2.callV hexec (Cdr.law l x cd z) hown (wks W (virtW "java/lang/String" 335 "java/lang/String" Cdr.yN Cdr.yN)) rfl (by decide) (wk W Cdr.tab) (W := 1) (Nat.le_of_ble_eq_true rfl) (Nat.le_of_ble_eq_true rfl) (Nat.le_refl _) (Nat.le_refl _) (hx2.1.fc X2.warmed.alike) hx2.1.is (g := (mkF m 6 #[.val (.ref x)] [.ref x, .int (Int32.ofNat V.slots.size)])) rfl (by rw [hml]; rfl) c3 (argsL := []) (rest := [.int (Int32.ofNat V.slots.size)]) rfl rfl (by show 2 * 0 + (1 + 0) ≤ _; decide) (hb hbytes d6) (⟨rfl, hx2.2.2.1, hx.2.2.2.2.1.cd, s1.there X2.warmed.alike hh2, hz⟩)
  obtain ⟨rfl, q4⟩ := E4
  have c5 : Steps p.tables e below (s₁.setTop (entryFrame m #[.ref x] 1)) (T4.setTop (mkF m 10 #[.val (.ref x)] [.int (Int32.ofNat V.slots.size >>> (cd &&& 31))])) := Steps.trans g4 (by
    refine ishr X4.here hexec rfl (hb hbytes d9) rfl ?_
    exact Steps.refl _)
  rw [hx.2.2.2.2.1.len v31] at c5
  exact ⟨T4, some (.int (Int32.ofNat n)), _, _, _, X4, rfl, rfl, rfl, (fun h => by cases h), ⟨rfl, q4.trans hh2⟩, fun fs hl => c5.trans (X4.ireturnOut hexec hret rfl (Or.inl rfl) (hb hbytes d10) hl)⟩
theorem pays {l : Launch} {R : Room} {p : Program} {e : Env} {below : List Frame} {s : State} {sargs : Array Value} {len W : Nat} (x t : Addr) (V : Cell) (cd : Int32) (n : Nat) (f : Nat → Int32) (z : Int32) (htab : tab.before sargs s = true) (hfr : 2 ≤ R.frames) (hlo : W + 25 ≤ R.locals) :
    Back l R p e below s sargs yN len W (fun A₁ a₁ => A₁.cells + 0 ≤ R.cells ∧ A₁.slots + 0 ≤ R.slots ∧ P x t V cd n f z a₁ A₁.U) (fun A₁ _ v₁ B₁ => E n v₁ A₁.U B₁.U ∧ B₁.locs = A₁.locs ++ [] ∧ B₁.cells = A₁.cells + 0 ∧ B₁.slots = A₁.slots + 0) :=
  (law l x t V cd n f z).pays htab hfr (by omega)
end Len
namespace IsL
def yN : MethodName := ⟨"java/lang/String", "isLatin1", "()Z"⟩
abbrev yB : ByteArray := jdk_42_method_154_code
theorem d0 : decode yB 0 = .ok (.getstatic 38, 3) := by decide +kernel
theorem d3 : decode yB 3 = .ok (.ifCond (.eq) 14, 3) := by decide +kernel
theorem d6 : decode yB 6 = .ok (.aload_n 0, 1) := by decide +kernel
theorem d7 : decode yB 7 = .ok (.getfield 15, 3) := by decide +kernel
theorem d10 : decode yB 10 = .ok (.ifCond (.ne) 7, 3) := by decide +kernel
theorem d13 : decode yB 13 = .ok (.iconst 1, 1) := by decide +kernel
theorem d14 : decode yB 14 = .ok (.goto 4, 3) := by decide +kernel
theorem d17 : decode yB 17 = .ok (.iconst 0, 1) := by decide +kernel
theorem d18 : decode yB 18 = .ok (.ireturn, 1) := by decide +kernel
def site : List Cond := [.fieldLink "java/lang/String" 38 "java/lang/String" "COMPACT_STRINGS" "Z", .fieldLink "java/lang/String" 15 "java/lang/String" "coder" "B"]
def tab : Cond := tabOf yN yB 1 (some .boolean) site
def P (x : Addr) (cd z : Int32) (args : Array Value) (s : State) : Prop := args = #[.ref x] ∧ Has x "java/lang/String" "coder" "B" (.int cd) s ∧ (cd = 0 ∨ cd = 1) ∧ StaticIs s "java/lang/String" "COMPACT_STRINGS" "Z" (.int z) ∧ ¬ z = 0
def E (cd : Int32) (r : Option Value) (s u : State) : Prop := XT.PureE (some (.int (1 - cd))) r s u
theorem law (l : Launch) (x : Addr) (cd z : Int32) : Law l yN 1 0 0 0 yB 1 (some .boolean) site (P x cd z) (E cd) [] 0 0 := by
  refine Law.of_walk (plainFor_of_name (by decide +kernel)) (by decide +kernel) (by decide +kernel) (by decide) (fun _ _ h => by rw [h.1]; rfl) (fun _ U U' hal hh h => ⟨h.1, h.2.1.mv hal hh, h.2.2.1, h.2.2.2.1.there hal hh, h.2.2.2.2⟩) (fun r U U' V V' h1 hal h2 h => XT.PureE.mv r U U' V V' h1 hal h2 h) ?_
  intro p e s m args below meth c s₁ X0 hexec hbytes hml hret hlk hnm hown hh0 W hP
  obtain ⟨rfl, hx, hc, s1, hz⟩ := hP
  have c1 : Steps p.tables e below (s₁.setTop (entryFrame m #[.ref x] 1)) (s₁.setTop (mkF m 0 #[.val (.ref x)] [])) := entry rfl
  obtain ⟨T2, X2, q2, st2⟩ := X0.sget hexec hown (wk W (.fieldLink "java/lang/String" 38 "java/lang/String" "COMPACT_STRINGS" "Z")) s1 (fun _ _ h => by rw [hh0]; exact h) (g := (mkF m 0 #[.val (.ref x)] [])) rfl (hb hbytes d0)
  have hh2 := q2.trans hh0
  have c3 : Steps p.tables e below (s₁.setTop (entryFrame m #[.ref x] 1)) (T2.setTop (mkF m 7 #[.val (.ref x)] [.ref x])) := (c1.trans (st2 _ (Steps.refl _))).trans (by
    refine XS.ifNo X2.here hexec rfl (hb hbytes d3) rfl (i0_eq_f hz) ?_
    refine XS.aloadN X2.here hexec rfl (hb hbytes d6) rfl rfl ?_
    exact Steps.refl _)
  obtain ⟨T4, X4, q4, st4⟩ := X2.hget hexec hown (wk W (.fieldLink "java/lang/String" 15 "java/lang/String" "coder" "B")) (hx.mv X2.warmed.alike hh2) (g := (mkF m 7 #[.val (.ref x)] [.ref x])) rfl (rest := []) rfl (hb hbytes d7)
  have c5 : Steps p.tables e below (s₁.setTop (entryFrame m #[.ref x] 1)) (T4.setTop (mkF m 10 #[.val (.ref x)] [.int cd])) := c3.trans (st4 _ (Steps.refl _))
  have c6 : Steps p.tables e below (s₁.setTop (entryFrame m #[.ref x] 1)) (T4.setTop (mkF m 18 #[.val (.ref x)] [.int (1 - cd)])) := by
    rcases hc with rfl | rfl
    · exact c5.trans (by
        refine XS.ifNo X4.here hexec rfl (hb hbytes d10) rfl (i0_ne_f rfl) ?_
        refine iconstV X4.here hexec rfl 1 (hb hbytes d13) (by decide) ?_
        refine XS.goto X4.here hexec rfl (pc0 := 14) rfl (hb hbytes d14) (by decide) rfl ?_
        exact Steps.refl _)
    · exact c5.trans (by
        refine XS.ifYes X4.here hexec rfl (pc0 := 10) rfl (hb hbytes d10) rfl (i0_ne_t (by decide)) (by decide) rfl ?_
        refine iconstV X4.here hexec rfl 0 (hb hbytes d17) (by decide) ?_
        exact Steps.refl _)
  exact ⟨T4, some (.int (1 - cd)), _, _, _, X4, rfl, rfl, rfl, (fun h => by cases h), ⟨rfl, q4.trans hh2⟩, fun fs hl => c6.trans (X4.ireturnOut hexec hret (by rcases hc with rfl | rfl <;> rfl) (Or.inr (Or.inl rfl)) (hb hbytes d18) hl)⟩
end IsL
namespace LChA
def yN : MethodName := ⟨"java/lang/StringLatin1", "charAt", "([BI)C"⟩
abbrev yB : ByteArray := jdk_43_method_2_code
theorem d0 : decode yB 0 = .ok (.iload_n 1, 1) := by decide +kernel
theorem d1 : decode yB 1 = .ok (.aload_n 0, 1) := by decide +kernel
theorem d2 : decode yB 2 = .ok (.arraylength, 1) := by decide +kernel
theorem d3 : decode yB 3 = .ok (.invokestatic 9, 3) := by decide +kernel
theorem d6 : decode yB 6 = .ok (.aload_n 0, 1) := by decide +kernel
theorem d7 : decode yB 7 = .ok (.iload_n 1, 1) := by decide +kernel
theorem d8 : decode yB 8 = .ok (.baload, 1) := by decide +kernel
theorem d9 : decode yB 9 = .ok (.sipush 255, 3) := by decide +kernel
theorem d12 : decode yB 12 = .ok (.iand, 1) := by decide +kernel
theorem d13 : decode yB 13 = .ok (.i2c, 1) := by decide +kernel
theorem d14 : decode yB 14 = .ok (.ireturn, 1) := by decide +kernel
def site : List Cond := [JO.Str_checkIndex.tab] ++ staticW "java/lang/StringLatin1" 9 JO.Str_checkIndex.yN
def tab : Cond := tabOf yN yB 2 (some .char) site
def P (t : Addr) (V : Cell) (i : Nat) (u : Int32) (fm : Value) (args : Array Value) (s : State) : Prop := args = #[.ref t, .int (Int32.ofNat i)] ∧ XT.Arr .byte t V s ∧ V.slots[i]? = some (.int u) ∧ (StaticIs s "jdk/internal/util/Preconditions" "SIOOBE_FORMATTER" "Ljava/util/function/BiFunction;" fm ∧ fm.isRef = true)
def E (u : Int32) (r : Option Value) (s w : State) : Prop := XT.PureE (some (.int (chr8 u))) r s w
theorem law (l : Launch) (t : Addr) (V : Cell) (i : Nat) (u : Int32) (fm : Value) : Law l yN 2 2 2 27 yB 2 (some .char) site (P t V i u fm) (E u) [] 0 0 := by
  refine Law.of_walk (plainFor_of_name (by decide +kernel)) (by decide +kernel) (by decide +kernel) (by decide) (fun _ _ h => by rw [h.1]; rfl) (fun _ U U' hal hh h => ⟨h.1, h.2.1.mv hal hh, h.2.2.1, h.2.2.2.1.there hal hh, h.2.2.2.2⟩) (fun r U U' V V' h1 hal h2 h => XT.PureE.mv r U U' V V' h1 hal h2 h) ?_
  intro p e s m args below meth c s₁ X0 hexec hbytes hml hret hlk hnm hown hh0 W hP
  obtain ⟨rfl, hV, hu, s1, rf⟩ := hP
  have v31 := hV.2.2.2
  have hi : i < V.slots.size := (Array.getElem?_eq_some_iff.mp hu).1
  have c1 : Steps p.tables e below (s₁.setTop (entryFrame m #[.ref t, .int (Int32.ofNat i)] 2)) (s₁.setTop (mkF m 0 #[.val (.ref t), .val (.int (Int32.ofNat i))] [])) := entry rfl
  have c2 : Steps p.tables e below (s₁.setTop (entryFrame m #[.ref t, .int (Int32.ofNat i)] 2)) (s₁.setTop (mkF m 3 #[.val (.ref t), .val (.int (Int32.ofNat i))] [.int (Int32.ofNat V.slots.size), .int (Int32.ofNat i)])) := c1.trans (by
    refine XS.iloadN X0.here hexec rfl (hb hbytes d0) rfl ?_
    refine XS.aloadN X0.here hexec rfl (hb hbytes d1) rfl rfl ?_
    refine X0.alen hexec (hV.mv X0.warmed.alike hh0) rfl rfl (hb hbytes d2) ?_
    exact Steps.refl _)
  obtain ⟨v3, T3, X3, E3, g3⟩ := X0.callS hexec (JO.Str_checkIndex.law l (Int32.ofNat i) (Int32.ofNat V.slots.size) fm) hown (wks W (staticW "java/lang/StringLatin1" 9 JO.Str_checkIndex.yN)) (wk W JO.Str_checkIndex.tab) (W := 0) (Nat.le_of_ble_eq_true rfl) (Nat.le_of_ble_eq_true rfl) (Nat.le_refl _) (Nat.le_refl _) (g := (mkF m 3 #[.val (.ref t), .val (.int (Int32.ofNat i))] [.int (Int32.ofNat V.slots.size), .int (Int32.ofNat i)])) rfl (by rw [hml]; rfl) c2 (argsL := [.int (Int32.ofNat i), .int (Int32.ofNat V.slots.size)]) (rest := []) rfl rfl (by show 2 * 0 + 0 ≤ _; decide) (hb hbytes d3) (⟨rfl, rf, s1.there X0.warmed.alike hh0, Int32.ofNat_not_neg (by omega), lt32 v31 hi⟩)
  obtain ⟨rfl, q3⟩ := E3
  have hh3 := q3.trans hh0
  have c4 : Steps p.tables e below (s₁.setTop (entryFrame m #[.ref t, .int (Int32.ofNat i)] 2)) (T3.setTop (mkF m 14 #[.val (.ref t), .val (.int (Int32.ofNat i))] [.int (chr8 u)])) := Steps.trans g3 (by
    refine XS.aloadN X3.here hexec rfl (hb hbytes d6) rfl rfl ?_
    refine XS.iloadN X3.here hexec rfl (hb hbytes d7) rfl ?_
    refine X3.aget hexec (hV.mv X3.warmed.alike hh3) rfl hu rfl rfl (hb hbytes d8) ?_
    refine sipushV X3.here hexec rfl 255 (hb hbytes d9) (by decide) ?_
    refine XS.iand X3.here hexec rfl (hb hbytes d12) rfl ?_
    refine i2c X3.here hexec rfl (hb hbytes d13) rfl ?_
    exact Steps.refl _)
  exact ⟨T3, some (.int (chr8 u)), _, _, _, X3, rfl, rfl, rfl, (fun h => by cases h), ⟨rfl, hh3⟩, fun fs hl => c4.trans (X3.ireturnOut hexec hret (narrow_c _) (Or.inr (Or.inr (Or.inr (Or.inl rfl)))) (hb hbytes d14) hl)⟩
end LChA
end StrChars
namespace StrChars.Road
open Jvm Sem ClassFile Op Lib Jvm.Stand Jvm.Free Jvm.Free.XT
open Jvm.Lib.Cold (StaticIs)
theorem consq {a : Array Value} {s : State} {c : Jvm.Cond} {L : List Jvm.Cond} (h0 : c.before a s = true) (h : ∀ w ∈ L, w.before a s = true) : ∀ w ∈ c :: L, w.before a s = true := fun w hw => (List.mem_cons.mp hw).elim (fun e => e ▸ h0) (h w)
/-- the words of String.length(), either coding -/
abbrev wordsLen : List Jvm.Cond := [.code Len.yN Len.yB 1 (some .int), .initialized ST, .fieldLink ST 9 ST "value" "[B", .fieldLink ST 38 ST "COMPACT_STRINGS" "Z", .fieldLink ST 15 ST "coder" "B", .code Cdr.yN Cdr.yB 1 (some .byte), .methodLink ST 335 Cdr.yN, .declares Cdr.yN, .selects ST Cdr.yN Cdr.yN, .instanceMethod Cdr.yN]
theorem tabLen_of {a : Array Value} {s : State} (h : ∀ w ∈ wordsLen, w.before a s = true) : Len.tab.before a s = true := by
  have hc : Cdr.tab.before a s = true := unparts (wk h (.code Cdr.yN Cdr.yB 1 (some .byte))) (wks h (.initialized Cdr.yN.cls :: Cdr.site))
  have q := consq hc h
  exact unparts (wk q (.code Len.yN Len.yB 1 (some .int))) (wks q (.initialized Len.yN.cls :: Len.site))
theorem movedLen {Z s : State} {a0 args : Array Value} (hZ : Z.Warmed39 s.vm) (hw : ∀ d ∈ wordsLen, d.before a0 Z = true) : ∀ d ∈ wordsLen, d.before args s = true := fun d hd => by
  have q := hw d hd
  have t : ∀ d ∈ wordsLen, d = .arrayClass .byte ∨ (d.onTables && d.keepsFace) = true := by decide +kernel
  rcases t d hd with rfl | t
  · exact RoadKit.mvA hZ q
  · exact RoadKit.mv hZ q t
/-- the bytes of the chars cs, low before high -/
def wideBytes : List Int32 → List Value
  | [] => []
  | c :: cs => .int (lo8 c) :: .int (hi8 c) :: wideBytes cs
theorem wide_lo (d : Value) : ∀ (cs : List Int32) (j : Nat), j < cs.length → (wideBytes cs).getD (2 * j) d = .int (lo8 (cs.getD j 0))
  | [], j, h => absurd h (Nat.not_lt_zero j)
  | c :: cs, 0, _ => rfl
  | c :: cs, j + 1, h => by
    have q := wide_lo d cs j (by simpa using h)
    rw [show 2 * (j + 1) = 2 * j + 1 + 1 from by omega]
    simpa [wideBytes] using q
theorem wide_hi (d : Value) : ∀ (cs : List Int32) (j : Nat), j < cs.length → (wideBytes cs).getD (2 * j + 1) d = .int (hi8 (cs.getD j 0))
  | [], j, h => absurd h (Nat.not_lt_zero j)
  | c :: cs, 0, _ => rfl
  | c :: cs, j + 1, h => by
    have q := wide_hi d cs j (by simpa using h)
    rw [show 2 * (j + 1) + 1 = 2 * j + 1 + 1 + 1 from by omega]
    simpa [wideBytes] using q
theorem low_at (d : Value) (cs : List Int32) (j : Nat) (h : j < cs.length) : (cs.map fun c => Value.int (lo8 c)).getD j d = .int (lo8 (cs.getD j 0)) := by
  simp [List.getD_eq_getElem?_getD, h]
/-- an array of N2 bytes vs codes the chars cs by the coder cd -/
def CodA (cs : List Int32) (cd N2 : Int32) (vs : List Value) : Prop := (cd = 0 ∧ N2 = Int32.ofNat cs.length ∧ vs = (cs.map fun c => Value.int (lo8 c)) ∧ ∀ c ∈ cs, ¬ 255 < c) ∨ (cd = 1 ∧ N2 = Int32.ofNat (2 * cs.length) ∧ vs = wideBytes cs ∧ ∃ c ∈ cs, 255 < c)
theorem CodA.cod {cs : List Int32} {cd N2 : Int32} {vs : List Value} {V : Cell} (h : CodA cs cd N2 vs) (hn : 2 * cs.length < 2 ^ 31) (hs : V.slots.size = N2.toNatClampNeg) (hv : RoadKit.Has V vs (.int 0)) : Cod cd cs.length (fun j => cs.getD j 0) V := by
  rcases h with ⟨rfl, rfl, rfl, h⟩ | ⟨rfl, rfl, rfl, c, hc, hw⟩
  · rw [n32 (by omega)] at hs
    exact Or.inl ⟨rfl, hs, fun j hj => ⟨by rw [hv j (by omega), low_at _ _ _ hj], by
      have e : cs.getD j 0 = cs[j] := by simp [List.getD_eq_getElem?_getD, hj]
      show ¬ 255 < cs.getD j 0
      rw [e]; exact h _ (List.getElem_mem _)⟩⟩
  · rw [n32 (by omega)] at hs
    obtain ⟨j, hj, rfl⟩ := List.getElem_of_mem hc
    exact Or.inr ⟨rfl, hs, fun j hj => ⟨by rw [hv _ (by omega), wide_lo _ _ _ hj], by rw [hv _ (by omega), wide_hi _ _ _ hj]⟩, j, hj, by
      have e : cs.getD j 0 = cs[j] := by simp [List.getD_eq_getElem?_getD, hj]
      show 255 < cs.getD j 0
      rw [e]; exact hw⟩
/-- an object of exactly java/lang/String, its two fields found: as the laws ask it -/
theorem strObj {Z U : State} {a0 : Array Value} {kI : Nat} (wi : (Jvm.Cond.instantiable ST kI).before a0 Z = true) (al : Z.vm.Alike U.vm) {x : Addr} {v0 c0 : Value} (E : RoadKit.Exa Z U.heap x ST) (V : RoadKit.Fld Z U.heap x ST "value" "[B" v0) (C : RoadKit.Fld Z U.heap x ST "coder" "B" c0) :
    ∃ (D : Cell) (fV fC : Field), Blank ST x D U ∧ Found ST "value" "[B" fV U ∧ Found ST "coder" "B" fC U ∧ D.slots[fV.slot]? = some v0 ∧ D.slots[fC.slot]? = some c0 ∧ RoadKit.slotOf Z ST "value" "[B" = fV.slot ∧ RoadKit.slotOf Z ST "coder" "B" = fC.slot := by
  obtain ⟨D, cfV, kV, iV, fV, hD, gV, stV, knV, obV, asV, slV⟩ := V
  obtain ⟨D', cfC, kC, iC, fC, hD', gC, stC, -, -, asC, slC⟩ := C
  cases hD.symm.trans hD'
  obtain ⟨D2, kD, e1, e2, e3, e4, e5⟩ := E
  cases hD.symm.trans e1
  obtain ⟨c2, k2, i1, i2, i3, -⟩ := Cond.instantiable_spec wi
  cases e2.symm.trans i1
  cases e3.symm.trans i2
  obtain ⟨kU, u1, u2⟩ := al.2.2 _ _ e3
  exact ⟨D, fV, fC, ⟨hD, ⟨knV, fun q hq => by rw [hq] at obV; cases obV⟩, by rw [al.findClass]; exact e2, kU, u1, by rw [u2]; exact i3, by rw [u2]; exact e5 i3⟩, ⟨SBG.found_only al ⟨cfV, kV, iV, gV⟩, stV⟩, ⟨SBG.found_only al ⟨cfC, kC, iC, gC⟩, stC⟩, slV, slC, by simp [RoadKit.slotOf, gV], by simp [RoadKit.slotOf, gC]⟩
theorem sta_is {Z U : State} (al : Z.vm.Alike U.vm) {C n d : String} {v : Value} (S : RoadKit.Sta Z U.heap C n d v) : StaticIs U C n d v := by
  obtain ⟨cfS, iS, kS, fS, st, cS, t1, t2, t3, t4, t5, t6, t7⟩ := S
  exact StaticIs.there (s := { Z with heap := U.heap }) ⟨cfS, iS, kS, fS, st, cS, t1, t2, t3, t4, t5, (fun q => by rw [q] at t6; cases t6), t7⟩ al rfl
/-- **length() OF SUCH A STRING** -/
theorem lenW {p : Program} {l : Launch} {e : Env} {R : Room} {s : State} {args : Array Value} {below : List Frame} {len W : Nat} {Z : State} {a0 : Array Value} {h : Heap} (hZ : Z.Warmed39 s.vm) (hw : ∀ d ∈ wordsLen, d.before a0 Z = true) {kI : Nat} (wi : (Jvm.Cond.instantiable ST kI).before a0 Z = true)
    {x t : Addr} {kb : ClassId} {cs : List Int32} {cd N2 z : Int32} {vs : List Value} (E : RoadKit.Exa Z h x ST) (V : RoadKit.Fld Z h x ST "value" "[B" (.ref t)) (C : RoadKit.Fld Z h x ST "coder" "B" (.int cd)) (K : RoadKit.Arv Z h t kb .byte N2 vs (.int 0)) (hc : CodA cs cd N2 vs) (hb : ∀ c ∈ cs, ¬ c < 0 ∧ ¬ (65535 : Int32) < c)
    (S : RoadKit.Sta Z h ST "COMPACT_STRINGS" "Z" (.int z)) (hz : ¬ z = 0) (l2 : cs.length ≤ 4000) (hfr : 2 ≤ R.frames) (hlo : W + 25 ≤ R.locals) :
    Back l R p e below s args (⟨"java/lang/String", "length", "()I"⟩ : MethodName) len W (fun P a => a = #[.ref x] ∧ P.U.heap = h ∧ P.cells + 0 ≤ R.cells ∧ P.slots + 0 ≤ R.slots)
      (fun P _ v B => ∃ L, (v = some (.int (Int32.ofNat cs.length)) ∧ L = [] ∧ B.U.heap = h) ∧ B.locs = P.locs ++ L ∧ B.cells = P.cells + 0 ∧ B.slots = P.slots + 0) := by
  obtain ⟨A, K1, K2, K3, K4, K5, K6⟩ := K
  have hcod := hc.cod (by omega) K3 K5
  intro m meth c P g ig mk a X hg hsize hdg hW hn hp'
  obtain ⟨rfl, rfl, r1, r2⟩ := hp'
  have al : Z.vm.Alike P.U.vm := hZ.alike.trans X.warmed.alike
  obtain ⟨D, fV, fC, hB, F1, F2, g1, g2, -, -⟩ := strObj wi al E V C
  have hx : Txt x t A cd cs.length (fun j => cs.getD j 0) P.U := ⟨⟨_, hB.2.2.1, D, hB.1, rfl, by cases q : D.vm <;> first | rfl | exact absurd q (hB.2.1.2 _)⟩, Has.of hB F1 g1, Has.of hB F2 g2, ⟨K1.1, State.isArrayOf_alike al K1.2.1, K1.2.2, by rcases hcod with ⟨-, q, -⟩ | ⟨-, q, -⟩ <;> omega⟩, hcod, fun j hj => by
    have e : cs.getD j 0 = cs[j] := by simp [List.getD_eq_getElem?_getD, hj]
    show ¬ cs.getD j 0 < 0 ∧ ¬ 65535 < cs.getD j 0
    rw [e]; exact hb _ (List.getElem_mem _)⟩
  obtain ⟨v, B, X', ⟨⟨hv, hh⟩, hl, hk, hs⟩, st⟩ := Len.pays x t A cd cs.length (fun j => cs.getD j 0) z (tabLen_of (movedLen hZ hw)) hfr hlo m meth c P g ig mk _ X hg hsize hdg hW hn ⟨r1, r2, rfl, hx, sta_is al S, hz⟩
  exact ⟨v, B, X', ⟨[], ⟨hv, rfl, hh⟩, hl, hk, hs⟩, st⟩
end StrChars.Road
namespace StrChars.Road
open Jvm Sem ClassFile Op Lib Jvm.Stand Jvm.Free Jvm.Free.XT
open Jvm.Lib.Cold (StaticIs)
/-- the road's facts of a String, as the laws ask it -/
theorem txt_of {Z U : State} {a0 : Array Value} {kI : Nat} (wi : (Jvm.Cond.instantiable ST kI).before a0 Z = true) (al : Z.vm.Alike U.vm) {x t : Addr} {kb : ClassId} {cs : List Int32} {cd N2 : Int32} {vs : List Value} (E : RoadKit.Exa Z U.heap x ST) (V : RoadKit.Fld Z U.heap x ST "value" "[B" (.ref t)) (C : RoadKit.Fld Z U.heap x ST "coder" "B" (.int cd)) (K : RoadKit.Arv Z U.heap t kb .byte N2 vs (.int 0)) (hc : CodA cs cd N2 vs) (hb : ∀ c ∈ cs, ¬ c < 0 ∧ ¬ (65535 : Int32) < c) (l2 : cs.length ≤ 4000) :
    ∃ A, Txt x t A cd cs.length (fun j => cs.getD j 0) U := by
  obtain ⟨A, K1, K2, K3, K4, K5, K6⟩ := K
  have hcod := hc.cod (by omega) K3 K5
  obtain ⟨D, fV, fC, hB, F1, F2, g1, g2, -, -⟩ := strObj wi al E V C
  exact ⟨A, ⟨_, hB.2.2.1, D, hB.1, rfl, by cases q : D.vm <;> first | rfl | exact absurd q (hB.2.1.2 _)⟩, Has.of hB F1 g1, Has.of hB F2 g2, ⟨K1.1, State.isArrayOf_alike al K1.2.1, K1.2.2, by rcases hcod with ⟨-, q, -⟩ | ⟨-, q, -⟩ <;> omega⟩, hcod, fun j hj => by
    have e : cs.getD j 0 = cs[j] := by simp [List.getD_eq_getElem?_getD, hj]
    show ¬ cs.getD j 0 < 0 ∧ ¬ 65535 < cs.getD j 0
    rw [e]; exact hb _ (List.getElem_mem _)⟩
end StrChars.Road
namespace StrChars
open Jvm Sem ClassFile Op Lib Jvm.Stand Jvm.Free.XT Jvm.Free.ALB Jvm.Free.JM Jvm.Free
open Jvm.Lib.Cold (StaticIs)
namespace ChN
def yN : MethodName := ⟨"java/lang/String", "charAt", "(I)C"⟩
abbrev yB : ByteArray := jdk_42_method_56_code
theorem d0 : decode yB 0 = .ok (.aload_n 0, 1) := by decide +kernel
theorem d1 : decode yB 1 = .ok (.invokevirtual 492, 3) := by decide +kernel
theorem d4 : decode yB 4 = .ok (.ifCond (.eq) 12, 3) := by decide +kernel
theorem d7 : decode yB 7 = .ok (.aload_n 0, 1) := by decide +kernel
theorem d8 : decode yB 8 = .ok (.getfield 9, 3) := by decide +kernel
theorem d11 : decode yB 11 = .ok (.iload_n 1, 1) := by decide +kernel
theorem d12 : decode yB 12 = .ok (.invokestatic 495, 3) := by decide +kernel
theorem d15 : decode yB 15 = .ok (.ireturn, 1) := by decide +kernel
def site : List Cond := [.fieldLink "java/lang/String" 9 "java/lang/String" "value" "[B", IsL.tab, LChA.tab] ++ virtW "java/lang/String" 492 "java/lang/String" IsL.yN IsL.yN ++ staticW "java/lang/String" 495 LChA.yN
def tab : Cond := tabOf yN yB 2 (some .char) site
def P (x t : Addr) (V : Cell) (n : Nat) (f : Nat → Int32) (z : Int32) (fm : Value) (i : Nat) (args : Array Value) (s : State) : Prop := args = #[.ref x, .int (Int32.ofNat i)] ∧ Txt x t V 0 n f s ∧ i < n ∧ StaticIs s "java/lang/String" "COMPACT_STRINGS" "Z" (.int z) ∧ ¬ z = 0 ∧ StaticIs s "jdk/internal/util/Preconditions" "SIOOBE_FORMATTER" "Ljava/util/function/BiFunction;" fm ∧ fm.isRef = true
def E (f : Nat → Int32) (i : Nat) (r : Option Value) (s u : State) : Prop := XT.PureE (some (.int (f i))) r s u
/-- charAt(i) of a Latin-1 String of n chars, i < n: f i -/
theorem law (l : Launch) (x t : Addr) (V : Cell) (n : Nat) (f : Nat → Int32) (z : Int32) (fm : Value) (i : Nat) : Law l yN 2 1 3 40 yB 2 (some .char) site (P x t V n f z fm i) (E f i) [] 0 0 := by
  refine Law.of_walk (plainFor_of_name (by decide +kernel)) (by decide +kernel) (by decide +kernel) (by decide) (fun _ _ h => by rw [h.1]; rfl) (fun _ U U' hal hh h => ⟨h.1, h.2.1.mv hal hh, h.2.2.1, h.2.2.2.1.there hal hh, h.2.2.2.2.1, h.2.2.2.2.2.1.there hal hh, h.2.2.2.2.2.2⟩) (fun r U U' V V' h1 hal h2 h => XT.PureE.mv r U U' V V' h1 hal h2 h) ?_
  intro p e s m args below meth c s₁ X0 hexec hbytes hml hret hlk hnm hown hh0 W hP
  obtain ⟨rfl, hx, hi, s1, hz, s3, rf⟩ := hP
  have v31 := hx.2.2.2.1.2.2.2
  have hr := hx.2.2.2.2.2 i hi
  have hx0 := hx.mv X0.warmed.alike hh0
  have c1 : Steps p.tables e below (s₁.setTop (entryFrame m #[.ref x, .int (Int32.ofNat i)] 2)) (s₁.setTop (mkF m 1 #[.val (.ref x), .val (.int (Int32.ofNat i))] [.ref x])) := Steps.trans (entry rfl) (by
    show Steps p.tables e below (s₁.setTop (mkF m 0 #[.val (.ref x), .val (.int (Int32.ofNat i))] [])) _
    refine XS.aloadN X0.here hexec rfl (hb hbytes d0) rfl rfl ?_
    exact Steps.refl _)
  obtain ⟨v2, T2, X2, E2, g2⟩ := X0.callV hexec (IsL.law l x 0 z) hown (wks W (virtW "java/lang/String" 492 "java/lang/String" IsL.yN IsL.yN)) rfl (by decide) (wk W IsL.tab) (W := 0) (Nat.le_of_ble_eq_true rfl) (Nat.le_of_ble_eq_true rfl) (Nat.le_refl _) (Nat.le_refl _) (hx0.1.fc X0.warmed.alike) hx0.1.is (g := (mkF m 1 #[.val (.ref x), .val (.int (Int32.ofNat i))] [.ref x])) rfl (by rw [hml]; rfl) c1 (argsL := []) (rest := []) rfl rfl (by show 2 * 0 + 0 ≤ _; decide) (hb hbytes d1) (⟨rfl, hx0.2.2.1, hx.2.2.2.2.1.cd, s1.there X0.warmed.alike hh0, hz⟩)
  obtain ⟨rfl, q2⟩ := E2
  have hh2 := q2.trans hh0
  have hx2 := hx.mv X2.warmed.alike hh2
  obtain ⟨-, k1, k2⟩ | ⟨k0, -⟩ := hx.2.2.2.2.1
  · have c3 : Steps p.tables e below (s₁.setTop (entryFrame m #[.ref x, .int (Int32.ofNat i)] 2)) (T2.setTop (mkF m 8 #[.val (.ref x), .val (.int (Int32.ofNat i))] [.ref x])) := Steps.trans g2 (by
      refine XS.ifNo X2.here hexec rfl (hb hbytes d4) rfl (i0_eq_f (by decide)) ?_
      refine XS.aloadN X2.here hexec rfl (hb hbytes d7) rfl rfl ?_
      exact Steps.refl _)
    obtain ⟨T4, X4, q4, st4⟩ := X2.hget hexec hown (wk W (.fieldLink "java/lang/String" 9 "java/lang/String" "value" "[B")) hx2.2.1 (g := (mkF m 8 #[.val (.ref x), .val (.int (Int32.ofNat i))] [.ref x])) rfl (rest := []) rfl (hb hbytes d8)
    have hh4 := q4.trans hh2
    have c5 : Steps p.tables e below (s₁.setTop (entryFrame m #[.ref x, .int (Int32.ofNat i)] 2)) (T4.setTop (mkF m 12 #[.val (.ref x), .val (.int (Int32.ofNat i))] [.int (Int32.ofNat i), .ref t])) := (c3.trans (st4 _ (Steps.refl _))).trans (by
      refine XS.iloadN X4.here hexec rfl (hb hbytes d11) rfl ?_
      exact Steps.refl _)
    obtain ⟨v6, T6, X6, E6, g6⟩ := X4.callS hexec (LChA.law l t V i (lo8 (f i)) fm) hown (wks W (staticW "java/lang/String" 495 LChA.yN)) (wk W LChA.tab) (W := 0) (Nat.le_of_ble_eq_true rfl) (Nat.le_of_ble_eq_true rfl) (Nat.le_refl _) (Nat.le_refl _) (g := (mkF m 12 #[.val (.ref x), .val (.int (Int32.ofNat i))] [.int (Int32.ofNat i), .ref t])) rfl (by rw [hml]; rfl) c5 (argsL := [.ref t, .int (Int32.ofNat i)]) (rest := []) rfl rfl (by show 2 * 0 + 0 ≤ _; decide) (hb hbytes d12) (⟨rfl, hx.2.2.2.1.mv X4.warmed.alike hh4, (k2 i hi).1, s3.there X4.warmed.alike hh4, rf⟩)
    obtain ⟨rfl, q6⟩ := E6
    rw [chr8_lo8 hr.1 (k2 i hi).2] at g6
    exact ⟨T6, some (.int (f i)), _, _, _, X6, rfl, rfl, rfl, (fun h => by cases h), ⟨rfl, q6.trans hh4⟩, fun fs hl => Steps.trans g6 (X6.ireturnOut hexec hret (narrow_ch hr.1 hr.2) (Or.inr (Or.inr (Or.inr (Or.inl rfl)))) (hb hbytes d15) hl)⟩
  · exact absurd k0 (by decide)
theorem pays {l : Launch} {R : Room} {p : Program} {e : Env} {below : List Frame} {s : State} {sargs : Array Value} {len W : Nat} (x t : Addr) (V : Cell) (n : Nat) (f : Nat → Int32) (z : Int32) (fm : Value) (i : Nat) (htab : tab.before sargs s = true) (hfr : 4 ≤ R.frames) (hlo : W + 53 ≤ R.locals) :
    Back l R p e below s sargs yN len W (fun A₁ a₁ => A₁.cells + 0 ≤ R.cells ∧ A₁.slots + 0 ≤ R.slots ∧ P x t V n f z fm i a₁ A₁.U) (fun A₁ _ v₁ B₁ => E f i v₁ A₁.U B₁.U ∧ B₁.locs = A₁.locs ++ [] ∧ B₁.cells = A₁.cells + 0 ∧ B₁.slots = A₁.slots + 0) :=
  (law l x t V n f z fm i).pays htab hfr (by omega)
end ChN
end StrChars
namespace StrChars.Road
open Jvm Sem ClassFile Op Lib Jvm.Stand Jvm.Free Jvm.Free.XT
open Jvm.Lib.Cold (StaticIs)
/-- the words of String.charAt(int), the Latin-1 road alone -/
abbrev wordsChN : List Jvm.Cond := [.code ChN.yN ChN.yB 2 (some .char), .initialized ST, .fieldLink ST 9 ST "value" "[B", .fieldLink ST 38 ST "COMPACT_STRINGS" "Z", .fieldLink ST 15 ST "coder" "B", .code IsL.yN IsL.yB 1 (some .boolean), .methodLink ST 492 IsL.yN, .declares IsL.yN, .selects ST IsL.yN IsL.yN, .instanceMethod IsL.yN,
  .methodLink ST 495 LChA.yN, .static LChA.yN, .code LChA.yN LChA.yB 2 (some .char), .initialized "java/lang/StringLatin1", .methodLink "java/lang/StringLatin1" 9 JO.Str_checkIndex.yN, .static JO.Str_checkIndex.yN, .code JO.Str_checkIndex.yN JO.Str_checkIndex.yB 2 none,
  .fieldLink ST 1053 "jdk/internal/util/Preconditions" "SIOOBE_FORMATTER" "Ljava/util/function/BiFunction;", .methodLink ST 1059 JC.PreCheck.yN, .static JC.PreCheck.yN, .code JC.PreCheck.yN JC.PreCheck.yB 3 (some .int), .initialized "jdk/internal/util/Preconditions"]
theorem tabChN_of {a : Array Value} {s : State} (h : ∀ w ∈ wordsChN, w.before a s = true) : ChN.tab.before a s = true := by
  have hp : JC.PreCheck.tab.before a s = true := unparts (wk h (.code JC.PreCheck.yN JC.PreCheck.yB 3 (some .int))) (wks h (.initialized JC.PreCheck.yN.cls :: JC.PreCheck.site))
  have qk := consq hp h
  have hk : JO.Str_checkIndex.tab.before a s = true := unparts (wk qk (.code JO.Str_checkIndex.yN JO.Str_checkIndex.yB 2 none)) (wks qk (.initialized JO.Str_checkIndex.yN.cls :: JO.Str_checkIndex.site))
  have ql := consq hk h
  have hl : LChA.tab.before a s = true := unparts (wk ql (.code LChA.yN LChA.yB 2 (some .char))) (wks ql (.initialized LChA.yN.cls :: LChA.site))
  have hi : IsL.tab.before a s = true := unparts (wk h (.code IsL.yN IsL.yB 1 (some .boolean))) (wks h (.initialized IsL.yN.cls :: IsL.site))
  have q := consq hi (consq hl h)
  exact unparts (wk q (.code ChN.yN ChN.yB 2 (some .char))) (wks q (.initialized ChN.yN.cls :: ChN.site))
theorem movedChN {Z s : State} {a0 args : Array Value} (hZ : Z.Warmed39 s.vm) (hw : ∀ d ∈ wordsChN, d.before a0 Z = true) : ∀ d ∈ wordsChN, d.before args s = true := fun d hd => by
  have t : ∀ d ∈ wordsChN, (d.onTables && d.keepsFace) = true := by decide +kernel
  exact RoadKit.mv hZ (hw d hd) (t d hd)
/-- **charAt(i) OF A LATIN-1 STRING**, i < n: the char -/
theorem chN {p : Program} {l : Launch} {e : Env} {R : Room} {s : State} {args : Array Value} {below : List Frame} {len W : Nat} {Z : State} {a0 : Array Value} {h : Heap} (hZ : Z.Warmed39 s.vm) (hw : ∀ d ∈ wordsChN, d.before a0 Z = true) {kI : Nat} (wi : (Jvm.Cond.instantiable ST kI).before a0 Z = true)
    {x t : Addr} {kb : ClassId} {cs : List Int32} {N2 z : Int32} {vs : List Value} {fm : Value} {i : Nat} {j : Int32} (E : RoadKit.Exa Z h x ST) (V : RoadKit.Fld Z h x ST "value" "[B" (.ref t)) (C : RoadKit.Fld Z h x ST "coder" "B" (.int 0)) (K : RoadKit.Arv Z h t kb .byte N2 vs (.int 0)) (hc : CodA cs 0 N2 vs) (hb : ∀ c ∈ cs, ¬ c < 0 ∧ ¬ (65535 : Int32) < c)
    (S : RoadKit.Sta Z h ST "COMPACT_STRINGS" "Z" (.int z)) (hz : ¬ z = 0) (F : RoadKit.Sta Z h "jdk/internal/util/Preconditions" "SIOOBE_FORMATTER" "Ljava/util/function/BiFunction;" fm) (rf : fm.isRef = true) (l2 : cs.length ≤ 4000) (hi : i < cs.length) (hj : j = Int32.ofNat i) (hfr : 4 ≤ R.frames) (hlo : W + 53 ≤ R.locals) :
    Back l R p e below s args (⟨"java/lang/String", "charAt", "(I)C"⟩ : MethodName) len W (fun P a => a = #[.ref x, .int j] ∧ P.U.heap = h ∧ P.cells + 0 ≤ R.cells ∧ P.slots + 0 ≤ R.slots)
      (fun P _ v B => ∃ L, (v = some (.int (cs.getD i 0)) ∧ L = [] ∧ B.U.heap = h) ∧ B.locs = P.locs ++ L ∧ B.cells = P.cells + 0 ∧ B.slots = P.slots + 0) := by
  subst hj
  intro m meth c P g ig mk a X hg hsize hdg hW hn hp'
  obtain ⟨rfl, rfl, r1, r2⟩ := hp'
  have al : Z.vm.Alike P.U.vm := hZ.alike.trans X.warmed.alike
  obtain ⟨A, hx⟩ := txt_of wi al E V C K hc hb l2
  obtain ⟨v, B, X', ⟨⟨hv, hh⟩, hl, hk, hs⟩, st⟩ := ChN.pays x t A cs.length (fun j => cs.getD j 0) z fm i (tabChN_of (movedChN hZ hw)) hfr hlo m meth c P g ig mk _ X hg hsize hdg hW hn ⟨r1, r2, rfl, hx, hi, sta_is al S, hz, sta_is al F, rf⟩
  exact ⟨v, B, X', ⟨[], ⟨hv, rfl, hh⟩, hl, hk, hs⟩, st⟩
/-- what backV says of its String, as the contracts of this text ask it: cs's low bytes, coder 0 -/
theorem codOf {cs : List Int32} {n : Nat} (hn : cs.length = n) (hb : ∀ c ∈ cs, ¬ 255 < c) : CodA cs 0 (Int32.ofNat n) ((cs.map lo8).map Value.int) := Or.inl ⟨rfl, by rw [hn], by simp [List.map_map, Function.comp_def], hb⟩
end StrChars.Road
end Jvm.Pilot.@@N@@
namespace Jvm.Pilot.@@N@@
open Jvm Jvm.ClassFile Sem Op Lib Jvm.Free Jvm.Stand Jvm.LawKit Jvm.RoadKit Bundle Jvm.Pilot.@@N@@.Jvm.D
set_option maxRecDepth 65536
set_option maxHeartbeats 40000000
section Own
variable {p : Program} {l : Launch} {e : Env} {R : Room} {s : State} {m : MethodId} {args : Array Value} {below : List Frame} {meth : Method} {c : Code} {T : State} {locs : List Loc} {cells slots : Nat} {Z : State} {a0 : Array Value} {h : Heap}
/-- from S the invocation ends, and G holds of the end -/
def Gl (p : Program) (e : Env) (below : List Frame) (G : State → Outcome → Prop) (S : State) : Prop :=
  ∃ s₂ o, Steps p.tables e below S s₂ ∧ s₂.status = .running ∧ Ended s₂ below o ∧ G s₂ o
theorem Gl.of {G : State → Outcome → Prop} {S S' : State} (h : ∀ t, Steps p.tables e below S' t → Steps p.tables e below S t) (g : Gl p e below G S') : Gl p e below G S := by
  obtain ⟨s2, o, a, b⟩ := g
  exact ⟨s2, o, h _ a, b⟩
def Gd (s : State) (Q : Option Value → Heap → List Loc → Prop) (C N : Nat) (t : State) (o : Outcome) : Prop := ∃ v L, o = .returned v ∧ Q v t.heap L ∧ FrameEnd s o t L C N
def Con (l : Launch) (Z : State) (y : MethodName) (bytes : ByteArray) (maxL : Nat) (rt : Option FieldType) (ws : List Jvm.Cond) (rm : Room) (C N : Nat) (as : Array Value) (h : Heap) (Q : Option Value → Heap → List Loc → Prop) : Prop :=
  MetFree l y (head1 (Jvm.Cond.code y bytes maxL rt :: ws) rm) (fun a U => a = as ∧ Z.Warmed39 U.vm ∧ U.heap = h) (fun _ _ _ _ _ => True) (fun _ U o U' => ∃ v L, o = .returned v ∧ Q v U'.heap L ∧ FrameEnd U o U' L C N)
theorem Con.intro {y : MethodName} {bytes : ByteArray} {maxL : Nat} {rt : Option FieldType} {ws : List Jvm.Cond} {rm : Room} {C N : Nat} {as : Array Value} {Q : Option Value → Heap → List Loc → Prop} (hp : plainFor y = true)
    (body : ∀ p e s m below meth c s₁, Stand p l e rm s m as below meth c s₁ [] 0 0 → p.tables.exec = Jvm.exec → c.code = bytes → c.maxLocals = maxL → Z.Warmed39 s.vm → s.vm.findClass y.cls = some m.cls → meth.name = y.name → meth.sig.returnType = rt → meth.locks = false → s₁.heap = h → s.heap = h →
      Gl p e below (Gd s Q C N) (s₁.setTop (entryFrame m as maxL))) : Con l Z y bytes maxL rt ws rm C N as h Q := by
  refine MetFree.of_bodySF hp hisR ?_
  intro p e s m args below meth c s₁ Bd hml0 hP hK
  obtain ⟨rfl, hZ, hh⟩ := hP
  exact body p e s m below meth c s₁ (Stand.of_body Bd) Bd.exec Bd.bytes hml0 hZ (findClass_of_methodNamed Bd.named) (name_of_methodNamed Bd.named Bd.method).1 Bd.returns (BodyLoose.notSynchronized Bd) (by rw [← hh, Bd.state]; rfl) hh
theorem Gl.leaf {Q : Option Value → Heap → List Loc → Prop} {C N : Nat} (X : Stand p l e R s m args below meth c T locs cells slots) (hlk : meth.locks = false) {v : Option Value} (hv : meth.sig.returnType = none → v = none) {S : State}
    (st : ∀ fs, (∀ (f : JFrame) (acts : List Action), f.method = m → f.locked = none → f.entered = [] → (doReturn e (T.setTop f) acts v).1 = T.setFrames fs) → Steps p.tables e below S (T.setFrames fs)) (eT : T.heap = h) (hQ : Q v h locs) (hC : cells ≤ C) (hN : slots ≤ N) : Gl p e below (Gd s Q C N) S := by
  obtain ⟨fs, hr, hrun, hended, hW, hsame⟩ := X.leave (v := v) hv hlk
  exact ⟨_, _, st fs hr, hrun, hended, v, locs, rfl, by show Q v T.heap locs; rw [eT]; exact hQ, ⟨_, rfl⟩, hW, hsame.mono hC hN⟩
/-- ireturn of an int -/
theorem Gl.retI {Q : Option Value → Heap → List Loc → Prop} {C N : Nat} (X : Stand p l e R s m args below meth c T locs cells slots) (hx : p.tables.exec = Jvm.exec) (hlk : meth.locks = false) (hret : meth.sig.returnType = some .int) {pc : Nat} {Ls : Array Slot} {z : Int32} {rest : List Value} (hd : decode c.code pc = .ok (.ireturn, 1))
    (eT : T.heap = h) (hQ : Q (some (.int z)) h locs) (hC : cells ≤ C) (hN : slots ≤ N) : Gl p e below (Gd s Q C N) (T.setTop (mkF m pc Ls (.int z :: rest))) :=
  Gl.leaf X hlk (fun q => by rw [hret] at q; cases q) (fun fs hr => retOut X hx hret rfl (Or.inl ⟨rfl, Or.inl rfl, z, rfl⟩) hd hr) eT hQ hC hN
/-- ireturn of a boolean, byte, char, short -/
theorem Gl.retN {Q : Option Value → Heap → List Loc → Prop} {C N : Nat} (X : Stand p l e R s m args below meth c T locs cells slots) (hx : p.tables.exec = Jvm.exec) (hlk : meth.locks = false) {t : FieldType} (hret : meth.sig.returnType = some t) (ht : t = .boolean ∨ t = .byte ∨ t = .char ∨ t = .short) {pc : Nat} {Ls : Array Slot} {z : Int32} {rest : List Value} (hd : decode c.code pc = .ok (.ireturn, 1))
    (eT : T.heap = h) (hQ : Q (some (.int (nar t z))) h locs) (hC : cells ≤ C) (hN : slots ≤ N) : Gl p e below (Gd s Q C N) (T.setTop (mkF m pc Ls (.int z :: rest))) :=
  Gl.leaf X hlk (fun q => by rw [hret] at q; cases q) (fun fs hr => Jvm.RoadKit.retN X hx hret ht hd hr) eT hQ hC hN
/-- areturn -/
theorem Gl.retR {Q : Option Value → Heap → List Loc → Prop} {C N : Nat} (X : Stand p l e R s m args below meth c T locs cells slots) (hx : p.tables.exec = Jvm.exec) (hlk : meth.locks = false) {t : FieldType} (hret : meth.sig.returnType = some t) (ht : t.isReference = true) {pc : Nat} {Ls : Array Slot} {w : Value} (hw : w.isRef = true) {rest : List Value} (hd : decode c.code pc = .ok (.areturn, 1))
    (eT : T.heap = h) (hQ : Q (some w) h locs) (hC : cells ≤ C) (hN : slots ≤ N) : Gl p e below (Gd s Q C N) (T.setTop (mkF m pc Ls (w :: rest))) :=
  Gl.leaf X hlk (fun q => by rw [hret] at q; cases q) (fun fs hr => retOut X hx hret (by cases t <;> first | (cases ht; done) | (rcases ref_cases hw with rfl | ⟨_, rfl⟩ <;> rfl)) (Or.inr (Or.inr (Or.inr (Or.inr ⟨rfl, ht, hw⟩)))) hd hr) eT hQ hC hN
/-- dreturn -/
theorem Gl.retD {Q : Option Value → Heap → List Loc → Prop} {C N : Nat} (X : Stand p l e R s m args below meth c T locs cells slots) (hx : p.tables.exec = Jvm.exec) (hlk : meth.locks = false) (hret : meth.sig.returnType = some .double) {pc : Nat} {Ls : Array Slot} {z : UInt64} {rest : List Value} (hd : decode c.code pc = .ok (.dreturn, 1))
    (eT : T.heap = h) (hQ : Q (some (.double z)) h locs) (hC : cells ≤ C) (hN : slots ≤ N) : Gl p e below (Gd s Q C N) (T.setTop (mkF m pc Ls (.double z :: rest))) :=
  Gl.leaf X hlk (fun q => by rw [hret] at q; cases q) (fun fs hr => retOut X hx hret rfl (Or.inr (Or.inr (Or.inl ⟨rfl, rfl, z, rfl⟩))) hd hr) eT hQ hC hN
/-- return -/
theorem Gl.ret0 {Q : Option Value → Heap → List Loc → Prop} {C N : Nat} (X : Stand p l e R s m args below meth c T locs cells slots) (hx : p.tables.exec = Jvm.exec) (hlk : meth.locks = false) (hret : meth.sig.returnType = none) {pc : Nat} {Ls : Array Slot} (hd : decode c.code pc = .ok (.return_, 1))
    (eT : T.heap = h) (hQ : Q none h locs) (hC : cells ≤ C) (hN : slots ≤ N) : Gl p e below (Gd s Q C N) (T.setTop (mkF m pc Ls [])) :=
  Gl.leaf X hlk (fun _ => rfl) (fun fs hr => X.returnOut hx hret hd hr) eT hQ hC hN
/-- the end of a walk that may have interned -/
def GdW (s : State) (Q : Option Value → Heap → List Loc → Prop) (C N : Nat) (t : State) (o : Outcome) : Prop := ∃ v L, o = .returned v ∧ Q v t.heap L ∧ ReturnedEndW s o t L C N
def ConW (l : Launch) (Z : State) (y : MethodName) (bytes : ByteArray) (maxL : Nat) (rt : Option FieldType) (ws : List Jvm.Cond) (rm : Room) (C N : Nat) (as : Array Value) (h : Heap) (Q : Option Value → Heap → List Loc → Prop) : Prop :=
  MetFree l y (head1 (Jvm.Cond.code y bytes maxL rt :: ws) rm) (fun a U => a = as ∧ Z.Warmed39 U.vm ∧ U.heap = h) (fun _ _ _ _ _ => True) (fun _ U o U' => ∃ v L, o = .returned v ∧ Q v U'.heap L ∧ ReturnedEndW U o U' L C N)
theorem ConW.intro {y : MethodName} {bytes : ByteArray} {maxL : Nat} {rt : Option FieldType} {ws : List Jvm.Cond} {rm : Room} {C N : Nat} {as : Array Value} {Q : Option Value → Heap → List Loc → Prop} (hp : plainFor y = true)
    (body : ∀ p e s m below meth c s₁, Stand p l e rm s m as below meth c s₁ [] 0 0 → p.tables.exec = Jvm.exec → c.code = bytes → c.maxLocals = maxL → Z.Warmed39 s.vm → s.vm.findClass y.cls = some m.cls → meth.name = y.name → meth.sig.returnType = rt → meth.locks = false → s₁.heap = h → s.heap = h →
      Gl p e below (GdW s Q C N) (s₁.setTop (entryFrame m as maxL))) : ConW l Z y bytes maxL rt ws rm C N as h Q := by
  refine MetFree.of_bodySF hp hisR ?_
  intro p e s m args below meth c s₁ Bd hml0 hP hK
  obtain ⟨rfl, hZ, hh⟩ := hP
  exact body p e s m below meth c s₁ (Stand.of_body Bd) Bd.exec Bd.bytes hml0 hZ (findClass_of_methodNamed Bd.named) (name_of_methodNamed Bd.named Bd.method).1 Bd.returns (BodyLoose.notSynchronized Bd) (by rw [← hh, Bd.state]; rfl) hh
theorem Gl.leafW {Q : Option Value → Heap → List Loc → Prop} {C N n : Nat} {vm₁ : Vm} (X : Stand p l e R (s.setVm vm₁) m args below meth c T locs cells slots) (hlk : meth.locks = false) {v : Option Value} (hv : meth.sig.returnType = none → v = none) {S : State}
    (st : ∀ fs, (∀ (f : JFrame) (acts : List Action), f.method = m → f.locked = none → f.entered = [] → (doReturn e (T.setTop f) acts v).1 = T.setFrames fs) → Steps p.tables e below S (T.setFrames fs)) (eT : T.heap = h) (hQ : Q v h locs) (hS : s.Since vm₁ n) (hn : n ≤ h.size) (hC : cells ≤ C) (hN : slots ≤ N) : Gl p e below (GdW s Q C N) S := by
  obtain ⟨fs, hr, hrun, hended, hW⟩ := X.leaveW hS (by rw [eT]; exact hn) (v := v) hv hlk
  exact ⟨_, _, st fs hr, hrun, hended, v, locs, rfl, by show Q v T.heap locs; rw [eT]; exact hQ, hW.1, hW.2.1, hW.2.2.1, hW.2.2.2.mono hC hN⟩
theorem Gl.retNW {Q : Option Value → Heap → List Loc → Prop} {C N n : Nat} {vm₁ : Vm} (X : Stand p l e R (s.setVm vm₁) m args below meth c T locs cells slots) (hx : p.tables.exec = Jvm.exec) (hlk : meth.locks = false) {t : FieldType} (hret : meth.sig.returnType = some t) (ht : t = .boolean ∨ t = .byte ∨ t = .char ∨ t = .short) {pc : Nat} {Ls : Array Slot} {z : Int32} {rest : List Value} (hd : decode c.code pc = .ok (.ireturn, 1))
    (eT : T.heap = h) (hQ : Q (some (.int (nar t z))) h locs) (hS : s.Since vm₁ n) (hn : n ≤ h.size) (hC : cells ≤ C) (hN : slots ≤ N) : Gl p e below (GdW s Q C N) (T.setTop (mkF m pc Ls (.int z :: rest))) :=
  Gl.leafW X hlk (fun q => by rw [hret] at q; cases q) (fun fs hr => Jvm.RoadKit.retN X hx hret ht hd hr) eT hQ hS hn hC hN
theorem Gl.retRW {Q : Option Value → Heap → List Loc → Prop} {C N n : Nat} {vm₁ : Vm} (X : Stand p l e R (s.setVm vm₁) m args below meth c T locs cells slots) (hx : p.tables.exec = Jvm.exec) (hlk : meth.locks = false) {t : FieldType} (hret : meth.sig.returnType = some t) (ht : t.isReference = true) {pc : Nat} {Ls : Array Slot} {w : Value} (hw : w.isRef = true) {rest : List Value} (hd : decode c.code pc = .ok (.areturn, 1))
    (eT : T.heap = h) (hQ : Q (some w) h locs) (hS : s.Since vm₁ n) (hn : n ≤ h.size) (hC : cells ≤ C) (hN : slots ≤ N) : Gl p e below (GdW s Q C N) (T.setTop (mkF m pc Ls (w :: rest))) :=
  Gl.leafW X hlk (fun q => by rw [hret] at q; cases q) (fun fs hr => retOut X hx hret (by cases t <;> first | (cases ht; done) | (rcases ref_cases hw with rfl | ⟨_, rfl⟩ <;> rfl)) (Or.inr (Or.inr (Or.inr (Or.inr ⟨rfl, ht, hw⟩)))) hd hr) eT hQ hS hn hC hN
theorem Gl.ret0W {Q : Option Value → Heap → List Loc → Prop} {C N n : Nat} {vm₁ : Vm} (X : Stand p l e R (s.setVm vm₁) m args below meth c T locs cells slots) (hx : p.tables.exec = Jvm.exec) (hlk : meth.locks = false) (hret : meth.sig.returnType = none) {pc : Nat} {Ls : Array Slot} (hd : decode c.code pc = .ok (.return_, 1))
    (eT : T.heap = h) (hQ : Q none h locs) (hS : s.Since vm₁ n) (hn : n ≤ h.size) (hC : cells ≤ C) (hN : slots ≤ N) : Gl p e below (GdW s Q C N) (T.setTop (mkF m pc Ls [])) :=
  Gl.leafW X hlk (fun _ => rfl) (fun fs hr => X.returnOut hx hret hd hr) eT hQ hS hn hC hN
theorem ref_nar {r : Value} {C : String} (h : r.isRef = true) : narrow (.object C) r = r := by rcases ref_cases h with rfl | ⟨_, rfl⟩ <;> rfl
theorem ref_fit {r : Value} {C : String} (h : r.isRef = true) : fits (.object C) r = true := by rcases ref_cases h with rfl | ⟨_, rfl⟩ <;> rfl
theorem cat_ref {r : Value} (h : r.isRef = true) : r.category = 1 := by rcases ref_cases h with rfl | ⟨_, rfl⟩ <;> rfl
/-- what a callee that writes and makes nothing leaves -/
def Pur (F : Option Value → Prop) (h0 : Heap) (v : Option Value) (h : Heap) (L : List Loc) : Prop := F v ∧ h = h0 ∧ L = []
theorem desc_ne {n : String} (h : (n == "java/lang/invoke/MethodHandle" || n == "java/lang/invoke/VarHandle") = false) : n ≠ "java/lang/invoke/MethodHandle" ∧ n ≠ "java/lang/invoke/VarHandle" := by
  simp only [Bool.or_eq_false_iff, beq_eq_false_iff_ne, ne_eq] at h
  exact h
/-- a static call by its contract -/
theorem Gl.callS {G : State → Outcome → Prop} (X : Stand p l e R s m args below meth c T locs cells slots) (hx : p.tables.exec = Jvm.exec) (hZ : Z.Warmed39 s.vm) {own : String} {index : Nat} {y : MethodName} {bytes : ByteArray} {maxL : Nat} {rt : Option FieldType} (hown : s.vm.findClass own = some m.cls)
    (w1 : (Jvm.Cond.methodLink own index y).before a0 Z = true) (w2 : (Jvm.Cond.static y).before a0 Z = true) (w3 : (Jvm.Cond.initialized y.cls).before a0 Z = true) (w4 : (Jvm.Cond.code y bytes maxL rt).before a0 Z = true) (hy : y.cls ≠ "java/lang/invoke/MethodHandle" ∧ y.cls ≠ "java/lang/invoke/VarHandle")
    {rm : Room} {Q : Option Value → Heap → List Loc → Prop} {argsL rest : List Value} (hM : Con l Z y bytes maxL rt [] rm rm.cells rm.slots argsL.toArray h Q) (W : Nat) (hf : rm.frames + 1 ≤ R.frames) (hl : W + (maxL + 11) + rm.locals ≤ R.locals) (hcl : cells + rm.cells ≤ R.cells) (hsl : slots + rm.slots ≤ R.slots) (eT : T.heap = h)
    {pc : Nat} {Ls : Array Slot} {st : List Value} (hsz : Ls.size = c.maxLocals) {ps : List FieldType} {r' : Option FieldType} (hds : parseMethodDescriptor y.desc = some ⟨ps, r'⟩) (hlen : argsL.length = ps.length) (hst : st = argsL.reverse ++ rest) (hW : 2 * 0 + (rest.map fun v => v.category).sum ≤ W) (hd : decode c.code pc = .ok (.invokestatic index, 3))
    (k : ∀ (v : Option Value) (T' : State) (L : List Loc), Stand p l e R s m args below meth c T' (locs ++ L) (cells + rm.cells) (slots + rm.slots) → Q v T'.heap L → Gl p e below G (T'.setTop (mkF m (pc + 3) Ls (v.toList ++ rest)))) : Gl p e below G (T.setTop (mkF m pc Ls st)) := by
  obtain ⟨v, _, ⟨T', L', k', n'⟩, -, X', ⟨Lc, hQ, l1, y1, z1⟩, stp⟩ := Jvm.LawKit.callS X hx (y := y) hown (mvT hZ w1) (mvT hZ w2) (mvT hZ w3) (mvT hZ w4) hy (backOf (W := W) hM hZ w4 w3 hf hl) (g := mkF m pc Ls st) rfl hsz (argsL := argsL) (rest := rest) (lenOf hds hlen) hst hW hd (fun _ _ => ⟨rfl, eT, hcl, hsl⟩)
  dsimp only [Pt.U, Pt.locs, Pt.cells, Pt.slots] at X' l1 y1 z1 stp hQ
  subst l1 y1 z1
  exact Gl.of stp (k v T' Lc X' hQ)
theorem Gl.callS0 {G : State → Outcome → Prop} (X : Stand p l e R s m args below meth c T locs cells slots) (hx : p.tables.exec = Jvm.exec) (hZ : Z.Warmed39 s.vm) {own : String} {index : Nat} {y : MethodName} {bytes : ByteArray} {maxL : Nat} {rt : Option FieldType} (hown : s.vm.findClass own = some m.cls)
    (w1 : (Jvm.Cond.methodLink own index y).before a0 Z = true) (w2 : (Jvm.Cond.static y).before a0 Z = true) (w3 : (Jvm.Cond.initialized y.cls).before a0 Z = true) (w4 : (Jvm.Cond.code y bytes maxL rt).before a0 Z = true) (hy : y.cls ≠ "java/lang/invoke/MethodHandle" ∧ y.cls ≠ "java/lang/invoke/VarHandle")
    {fr lo : Nat} {F : Option Value → Prop} {argsL rest : List Value} (hM : Con l Z y bytes maxL rt [] ({ frames := fr, cells := 0, slots := 0, locals := lo } : Room) 0 0 argsL.toArray h (Pur F h)) (W : Nat) (hf : fr + 1 ≤ R.frames) (hl : W + (maxL + 11) + lo ≤ R.locals) (eT : T.heap = h)
    {pc : Nat} {Ls : Array Slot} {st : List Value} (hsz : Ls.size = c.maxLocals) {ps : List FieldType} {r' : Option FieldType} (hds : parseMethodDescriptor y.desc = some ⟨ps, r'⟩) (hlen : argsL.length = ps.length) (hst : st = argsL.reverse ++ rest) (hW : 2 * 0 + (rest.map fun v => v.category).sum ≤ W) (hd : decode c.code pc = .ok (.invokestatic index, 3)) (hcl : cells ≤ R.cells) (hsl : slots ≤ R.slots)
    (k : ∀ (v : Option Value) (T' : State), Stand p l e R s m args below meth c T' locs cells slots → T'.heap = h → F v → Gl p e below G (T'.setTop (mkF m (pc + 3) Ls (v.toList ++ rest)))) : Gl p e below G (T.setTop (mkF m pc Ls st)) := by
  refine Gl.callS X hx hZ hown w1 w2 w3 w4 hy hM W hf hl hcl hsl eT hsz hds hlen hst hW hd ?_
  intro v T' L X' hQ
  obtain ⟨q1, q2, rfl⟩ := hQ
  rw [List.append_nil] at X'
  exact k v T' X' q2 q1
/-- an instance method that the receiver's class selects, by its contract -/
theorem Gl.callV {G : State → Outcome → Prop} (X : Stand p l e R s m args below meth c T locs cells slots) (hx : p.tables.exec = Jvm.exec) (hZ : Z.Warmed39 s.vm) {own C : String} {index : Nat} {y z : MethodName} {bytes : ByteArray} {maxL : Nat} {rt : Option FieldType} (hown : s.vm.findClass own = some m.cls)
    (w1 : (Jvm.Cond.methodLink own index y).before a0 Z = true) (w2 : (Jvm.Cond.declares y).before a0 Z = true) (nf : NotFace s y) (w3 : (Jvm.Cond.selects C y z).before a0 Z = true) (w4 : (Jvm.Cond.instanceMethod z).before a0 Z = true) (w5 : (Jvm.Cond.code z bytes maxL rt).before a0 Z = true) (w6 : (Jvm.Cond.initialized z.cls).before a0 Z = true) (hy : y.cls ≠ "java/lang/invoke/MethodHandle" ∧ y.cls ≠ "java/lang/invoke/VarHandle")
    {rm : Room} {Q : Option Value → Heap → List Loc → Prop} {b : Addr} {argsL rest : List Value} (hE : Exa Z h b C) (hM : Con l Z z bytes maxL rt [] rm rm.cells rm.slots (.ref b :: argsL).toArray h Q) (W : Nat) (hf : rm.frames + 1 ≤ R.frames) (hl : W + (maxL + 11) + rm.locals ≤ R.locals) (hcl : cells + rm.cells ≤ R.cells) (hsl : slots + rm.slots ≤ R.slots) (eT : T.heap = h)
    {pc : Nat} {Ls : Array Slot} {st : List Value} (hsz : Ls.size = c.maxLocals) {ps : List FieldType} {r' : Option FieldType} (hds : parseMethodDescriptor y.desc = some ⟨ps, r'⟩) (hlen : argsL.length = ps.length) (hst : st = argsL.reverse ++ .ref b :: rest) (hW : 2 * 0 + (rest.map fun v => v.category).sum ≤ W) (hd : decode c.code pc = .ok (.invokevirtual index, 3))
    (k : ∀ (v : Option Value) (T' : State) (L : List Loc), Stand p l e R s m args below meth c T' (locs ++ L) (cells + rm.cells) (slots + rm.slots) → Q v T'.heap L → Gl p e below G (T'.setTop (mkF m (pc + 3) Ls (v.toList ++ rest)))) : Gl p e below G (T.setTop (mkF m pc Ls st)) := by
  obtain ⟨cq, kq, qa, qb, qc⟩ := isOf hZ eT hE
  obtain ⟨v, _, ⟨T', L', k', n'⟩, -, X', ⟨Lc, hQ, l1, y1, z1⟩, stp⟩ := X.virtualBack hx (y := y) (z := z) hown (mvT hZ w1) (mvT hZ w2) nf (mvT hZ w3) (mvT hZ w4) hy (backOf (W := W) hM hZ w5 w6 hf hl) qa qc (g := mkF m pc Ls st) rfl hsz (Steps.refl _) (argsL := argsL) (rest := rest) (lenOf hds hlen) hst hW hd (fun _ _ => ⟨rfl, eT, hcl, hsl⟩)
  dsimp only [Pt.U, Pt.locs, Pt.cells, Pt.slots] at X' l1 y1 z1 stp hQ
  subst l1 y1 z1
  exact Gl.of (fun t q => stp.trans q) (k v T' Lc X' hQ)
theorem Gl.callV0 {G : State → Outcome → Prop} (X : Stand p l e R s m args below meth c T locs cells slots) (hx : p.tables.exec = Jvm.exec) (hZ : Z.Warmed39 s.vm) {own C : String} {index : Nat} {y z : MethodName} {bytes : ByteArray} {maxL : Nat} {rt : Option FieldType} (hown : s.vm.findClass own = some m.cls)
    (w1 : (Jvm.Cond.methodLink own index y).before a0 Z = true) (w2 : (Jvm.Cond.declares y).before a0 Z = true) (nf : NotFace s y) (w3 : (Jvm.Cond.selects C y z).before a0 Z = true) (w4 : (Jvm.Cond.instanceMethod z).before a0 Z = true) (w5 : (Jvm.Cond.code z bytes maxL rt).before a0 Z = true) (w6 : (Jvm.Cond.initialized z.cls).before a0 Z = true) (hy : y.cls ≠ "java/lang/invoke/MethodHandle" ∧ y.cls ≠ "java/lang/invoke/VarHandle")
    {fr lo : Nat} {F : Option Value → Prop} {b : Addr} {argsL rest : List Value} (hE : Exa Z h b C) (hM : Con l Z z bytes maxL rt [] ({ frames := fr, cells := 0, slots := 0, locals := lo } : Room) 0 0 (.ref b :: argsL).toArray h (Pur F h)) (W : Nat) (hf : fr + 1 ≤ R.frames) (hl : W + (maxL + 11) + lo ≤ R.locals) (eT : T.heap = h)
    {pc : Nat} {Ls : Array Slot} {st : List Value} (hsz : Ls.size = c.maxLocals) {ps : List FieldType} {r' : Option FieldType} (hds : parseMethodDescriptor y.desc = some ⟨ps, r'⟩) (hlen : argsL.length = ps.length) (hst : st = argsL.reverse ++ .ref b :: rest) (hW : 2 * 0 + (rest.map fun v => v.category).sum ≤ W) (hd : decode c.code pc = .ok (.invokevirtual index, 3)) (hcl : cells ≤ R.cells) (hsl : slots ≤ R.slots)
    (k : ∀ (v : Option Value) (T' : State), Stand p l e R s m args below meth c T' locs cells slots → T'.heap = h → F v → Gl p e below G (T'.setTop (mkF m (pc + 3) Ls (v.toList ++ rest)))) : Gl p e below G (T.setTop (mkF m pc Ls st)) := by
  refine Gl.callV X hx hZ hown w1 w2 nf w3 w4 w5 w6 hy hE hM W hf hl hcl hsl eT hsz hds hlen hst hW hd ?_
  intro v T' L X' hQ
  obtain ⟨q1, q2, rfl⟩ := hQ
  rw [List.append_nil] at X'
  exact k v T' X' q2 q1
/-- a private instance method by its contract -/
theorem Gl.callP {G : State → Outcome → Prop} (X : Stand p l e R s m args below meth c T locs cells slots) (hx : p.tables.exec = Jvm.exec) (hZ : Z.Warmed39 s.vm) {own C : String} {index : Nat} {y : MethodName} {bytes : ByteArray} {maxL : Nat} {rt : Option FieldType} (hown : s.vm.findClass own = some m.cls)
    (w1 : (Jvm.Cond.methodLink own index y).before a0 Z = true) (nf : NotFace s y) (w3 : (Jvm.Cond.privateMethod y).before a0 Z = true) (w4 : (Jvm.Cond.instanceMethod y).before a0 Z = true) (w5 : (Jvm.Cond.code y bytes maxL rt).before a0 Z = true) (w6 : (Jvm.Cond.initialized y.cls).before a0 Z = true) (hy : y.cls ≠ "java/lang/invoke/MethodHandle" ∧ y.cls ≠ "java/lang/invoke/VarHandle")
    {rm : Room} {Q : Option Value → Heap → List Loc → Prop} {b : Addr} {argsL rest : List Value} (hE : Exa Z h b C) (hM : Con l Z y bytes maxL rt [] rm rm.cells rm.slots (.ref b :: argsL).toArray h Q) (W : Nat) (hf : rm.frames + 1 ≤ R.frames) (hl : W + (maxL + 11) + rm.locals ≤ R.locals) (hcl : cells + rm.cells ≤ R.cells) (hsl : slots + rm.slots ≤ R.slots) (eT : T.heap = h)
    {pc : Nat} {Ls : Array Slot} {st : List Value} (hsz : Ls.size = c.maxLocals) {ps : List FieldType} {r' : Option FieldType} (hds : parseMethodDescriptor y.desc = some ⟨ps, r'⟩) (hlen : argsL.length = ps.length) (hst : st = argsL.reverse ++ .ref b :: rest) (hW : 2 * 0 + (rest.map fun v => v.category).sum ≤ W) (hd : decode c.code pc = .ok (.invokevirtual index, 3))
    (k : ∀ (v : Option Value) (T' : State) (L : List Loc), Stand p l e R s m args below meth c T' (locs ++ L) (cells + rm.cells) (slots + rm.slots) → Q v T'.heap L → Gl p e below G (T'.setTop (mkF m (pc + 3) Ls (v.toList ++ rest)))) : Gl p e below G (T.setTop (mkF m pc Ls st)) := by
  obtain ⟨cq, q, q'⟩ := hE.cell
  have hpv := Cond.privateMethod_at (mvP hZ w3 (args := #[]))
  have hin : (Jvm.Cond.instanceMethod y).before args s = true := mvT hZ w4
  obtain ⟨mk, methM, hnamed, hmethM, -, -⟩ := Cond.instanceMethod_spec hin
  obtain ⟨kc, hkc, hkni⟩ := nf mk hnamed
  have hsel : (Jvm.Cond.selects y.cls y y).before args s = true := selects_self_of_private (findClass_of_methodNamed hnamed) hkc hkni hpv hin hy
  obtain ⟨v, _, ⟨T', L', k', n'⟩, -, X', ⟨Lc, hQ, l1, y1, z1⟩, stp⟩ := X.privateBack hx (y := y) hown (mvT hZ w1) hin hsel hpv (mvT hZ w5) hy (backOf (W := W) hM hZ w5 w6 hf hl) (g := mkF m pc Ls st) rfl hsz (Steps.refl _) (a := b) (by rw [eT]; exact q) q' (argsL := argsL) (rest := rest) (lenOf hds hlen) hst hW hd (fun _ _ => ⟨rfl, eT, hcl, hsl⟩)
  dsimp only [Pt.U, Pt.locs, Pt.cells, Pt.slots] at X' l1 y1 z1 stp hQ
  subst l1 y1 z1
  exact Gl.of (fun t q => stp.trans q) (k v T' Lc X' hQ)
theorem Gl.callP0 {G : State → Outcome → Prop} (X : Stand p l e R s m args below meth c T locs cells slots) (hx : p.tables.exec = Jvm.exec) (hZ : Z.Warmed39 s.vm) {own C : String} {index : Nat} {y : MethodName} {bytes : ByteArray} {maxL : Nat} {rt : Option FieldType} (hown : s.vm.findClass own = some m.cls)
    (w1 : (Jvm.Cond.methodLink own index y).before a0 Z = true) (nf : NotFace s y) (w3 : (Jvm.Cond.privateMethod y).before a0 Z = true) (w4 : (Jvm.Cond.instanceMethod y).before a0 Z = true) (w5 : (Jvm.Cond.code y bytes maxL rt).before a0 Z = true) (w6 : (Jvm.Cond.initialized y.cls).before a0 Z = true) (hy : y.cls ≠ "java/lang/invoke/MethodHandle" ∧ y.cls ≠ "java/lang/invoke/VarHandle")
    {fr lo : Nat} {F : Option Value → Prop} {b : Addr} {argsL rest : List Value} (hE : Exa Z h b C) (hM : Con l Z y bytes maxL rt [] ({ frames := fr, cells := 0, slots := 0, locals := lo } : Room) 0 0 (.ref b :: argsL).toArray h (Pur F h)) (W : Nat) (hf : fr + 1 ≤ R.frames) (hl : W + (maxL + 11) + lo ≤ R.locals) (eT : T.heap = h)
    {pc : Nat} {Ls : Array Slot} {st : List Value} (hsz : Ls.size = c.maxLocals) {ps : List FieldType} {r' : Option FieldType} (hds : parseMethodDescriptor y.desc = some ⟨ps, r'⟩) (hlen : argsL.length = ps.length) (hst : st = argsL.reverse ++ .ref b :: rest) (hW : 2 * 0 + (rest.map fun v => v.category).sum ≤ W) (hd : decode c.code pc = .ok (.invokevirtual index, 3)) (hcl : cells ≤ R.cells) (hsl : slots ≤ R.slots)
    (k : ∀ (v : Option Value) (T' : State), Stand p l e R s m args below meth c T' locs cells slots → T'.heap = h → F v → Gl p e below G (T'.setTop (mkF m (pc + 3) Ls (v.toList ++ rest)))) : Gl p e below G (T.setTop (mkF m pc Ls st)) := by
  refine Gl.callP X hx hZ hown w1 nf w3 w4 w5 w6 hy hE hM W hf hl hcl hsl eT hsz hds hlen hst hW hd ?_
  intro v T' L X' hQ
  obtain ⟨q1, q2, rfl⟩ := hQ
  rw [List.append_nil] at X'
  exact k v T' X' q2 q1
/-- a constructor by its contract -/
theorem Gl.callI {G : State → Outcome → Prop} (X : Stand p l e R s m args below meth c T locs cells slots) (hx : p.tables.exec = Jvm.exec) (hZ : Z.Warmed39 s.vm) {own : String} {index : Nat} {y : MethodName} {bytes : ByteArray} {maxL : Nat} (hy1 : y.name = "<init>") (hown : s.vm.findClass own = some m.cls)
    (w1 : (Jvm.Cond.methodLink own index y).before a0 Z = true) (w2 : (Jvm.Cond.instanceMethod y).before a0 Z = true) (w3 : (Jvm.Cond.initialized y.cls).before a0 Z = true) (w4 : (Jvm.Cond.code y bytes maxL none).before a0 Z = true) (hy : y.cls ≠ "java/lang/invoke/MethodHandle" ∧ y.cls ≠ "java/lang/invoke/VarHandle")
    {rm : Room} {Q : Option Value → Heap → List Loc → Prop} {b : Addr} {argsL rest : List Value} (hM : Con l Z y bytes maxL none [] rm rm.cells rm.slots (.ref b :: argsL).toArray h Q) (W : Nat) (hf : rm.frames + 1 ≤ R.frames) (hl : W + (maxL + 11) + rm.locals ≤ R.locals) (hcl : cells + rm.cells ≤ R.cells) (hsl : slots + rm.slots ≤ R.slots) (eT : T.heap = h)
    {pc : Nat} {Ls : Array Slot} {st : List Value} (hsz : Ls.size = c.maxLocals) {ps : List FieldType} {r' : Option FieldType} (hds : parseMethodDescriptor y.desc = some ⟨ps, r'⟩) (hlen : argsL.length = ps.length) (hst : st = argsL.reverse ++ .ref b :: rest) (hW : 2 * 0 + (rest.map fun v => v.category).sum ≤ W) (hd : decode c.code pc = .ok (.invokespecial index, 3))
    (k : ∀ (v : Option Value) (T' : State) (L : List Loc), Stand p l e R s m args below meth c T' (locs ++ L) (cells + rm.cells) (slots + rm.slots) → Q v T'.heap L → Gl p e below G (T'.setTop (mkF m (pc + 3) Ls (v.toList ++ rest)))) : Gl p e below G (T.setTop (mkF m pc Ls st)) := by
  obtain ⟨v, _, ⟨T', L', k', n'⟩, -, X', ⟨Lc, hQ, l1, y1, z1⟩, stp⟩ := X.specialBack hx (y := y) hy1 hown (mvT hZ w1) (mvT hZ w2) (mvT hZ w4) hy (backOf (W := W) hM hZ w4 w3 hf hl) (g := mkF m pc Ls st) rfl hsz (Steps.refl _) (a := b) (argsL := argsL) (rest := rest) (lenOf hds hlen) hst hW hd (fun _ _ => ⟨rfl, eT, hcl, hsl⟩)
  dsimp only [Pt.U, Pt.locs, Pt.cells, Pt.slots] at X' l1 y1 z1 stp hQ
  subst l1 y1 z1
  exact Gl.of (fun t q => stp.trans q) (k v T' Lc X' hQ)
theorem Gl.callI0 {G : State → Outcome → Prop} (X : Stand p l e R s m args below meth c T locs cells slots) (hx : p.tables.exec = Jvm.exec) (hZ : Z.Warmed39 s.vm) {own : String} {index : Nat} {y : MethodName} {bytes : ByteArray} {maxL : Nat} (hy1 : y.name = "<init>") (hown : s.vm.findClass own = some m.cls)
    (w1 : (Jvm.Cond.methodLink own index y).before a0 Z = true) (w2 : (Jvm.Cond.instanceMethod y).before a0 Z = true) (w3 : (Jvm.Cond.initialized y.cls).before a0 Z = true) (w4 : (Jvm.Cond.code y bytes maxL none).before a0 Z = true) (hy : y.cls ≠ "java/lang/invoke/MethodHandle" ∧ y.cls ≠ "java/lang/invoke/VarHandle")
    {fr lo : Nat} {F : Option Value → Prop} {b : Addr} {argsL rest : List Value} (hM : Con l Z y bytes maxL none [] ({ frames := fr, cells := 0, slots := 0, locals := lo } : Room) 0 0 (.ref b :: argsL).toArray h (Pur F h)) (W : Nat) (hf : fr + 1 ≤ R.frames) (hl : W + (maxL + 11) + lo ≤ R.locals) (eT : T.heap = h)
    {pc : Nat} {Ls : Array Slot} {st : List Value} (hsz : Ls.size = c.maxLocals) {ps : List FieldType} {r' : Option FieldType} (hds : parseMethodDescriptor y.desc = some ⟨ps, r'⟩) (hlen : argsL.length = ps.length) (hst : st = argsL.reverse ++ .ref b :: rest) (hW : 2 * 0 + (rest.map fun v => v.category).sum ≤ W) (hd : decode c.code pc = .ok (.invokespecial index, 3)) (hcl : cells ≤ R.cells) (hsl : slots ≤ R.slots)
    (k : ∀ (v : Option Value) (T' : State), Stand p l e R s m args below meth c T' locs cells slots → T'.heap = h → F v → Gl p e below G (T'.setTop (mkF m (pc + 3) Ls (v.toList ++ rest)))) : Gl p e below G (T.setTop (mkF m pc Ls st)) := by
  refine Gl.callI X hx hZ hy1 hown w1 w2 w3 w4 hy hM W hf hl hcl hsl eT hsz hds hlen hst hW hd ?_
  intro v T' L X' hQ
  obtain ⟨q1, q2, rfl⟩ := hQ
  rw [List.append_nil] at X'
  exact k v T' X' q2 q1
/-- a constructor, by a Back -/
theorem Gl.callIB {G : State → Outcome → Prop} (X : Stand p l e R s m args below meth c T locs cells slots) (hx : p.tables.exec = Jvm.exec) (hZ : Z.Warmed39 s.vm) {own : String} {index : Nat} {y : MethodName} {bytes : ByteArray} {maxL : Nat} (hy1 : y.name = "<init>") (hown : s.vm.findClass own = some m.cls)
    (w1 : (Jvm.Cond.methodLink own index y).before a0 Z = true) (w2 : (Jvm.Cond.instanceMethod y).before a0 Z = true) (w4 : (Jvm.Cond.code y bytes maxL none).before a0 Z = true) (hy : y.cls ≠ "java/lang/invoke/MethodHandle" ∧ y.cls ≠ "java/lang/invoke/VarHandle")
    {C N W : Nat} (Q : Option Value → Heap → List Loc → Prop) {b : Addr} {argsL rest : List Value} (hK : Back l R p e below s args y 3 W (fun A a => a = (Value.ref b :: argsL).toArray ∧ A.U.heap = h ∧ A.cells + C ≤ R.cells ∧ A.slots + N ≤ R.slots) (fun A _ v B => ∃ L, Q v B.U.heap L ∧ B.locs = A.locs ++ L ∧ B.cells = A.cells + C ∧ B.slots = A.slots + N)) (hcl : cells + C ≤ R.cells) (hsl : slots + N ≤ R.slots) (eT : T.heap = h)
    {pc : Nat} {Ls : Array Slot} {st : List Value} (hsz : Ls.size = c.maxLocals) {ps : List FieldType} {r' : Option FieldType} (hds : parseMethodDescriptor y.desc = some ⟨ps, r'⟩) (hlen : argsL.length = ps.length) (hst : st = argsL.reverse ++ .ref b :: rest) (hW : 2 * 0 + (rest.map fun v => v.category).sum ≤ W) (hd : decode c.code pc = .ok (.invokespecial index, 3))
    (k : ∀ (v : Option Value) (T' : State) (L : List Loc), Stand p l e R s m args below meth c T' (locs ++ L) (cells + C) (slots + N) → Q v T'.heap L → Gl p e below G (T'.setTop (mkF m (pc + 3) Ls (v.toList ++ rest)))) : Gl p e below G (T.setTop (mkF m pc Ls st)) := by
  obtain ⟨v, _, ⟨T', L', k', n'⟩, -, X', ⟨Lc, hQ, l1, y1, z1⟩, stp⟩ := X.specialBack hx (y := y) hy1 hown (mvT hZ w1) (mvT hZ w2) (mvT hZ w4) hy hK (g := mkF m pc Ls st) rfl hsz (Steps.refl _) (a := b) (argsL := argsL) (rest := rest) (lenOf hds hlen) hst hW hd (fun _ _ => ⟨rfl, eT, hcl, hsl⟩)
  dsimp only [Pt.U, Pt.locs, Pt.cells, Pt.slots] at X' l1 y1 z1 stp hQ
  subst l1 y1 z1
  exact Gl.of (fun t q => stp.trans q) (k v T' Lc X' hQ)
/-- an instance method that writes and makes nothing, by a Back -/
theorem Gl.callVB {G : State → Outcome → Prop} (X : Stand p l e R s m args below meth c T locs cells slots) (hx : p.tables.exec = Jvm.exec) (hZ : Z.Warmed39 s.vm) {own C : String} {index : Nat} {y z : MethodName} (hown : s.vm.findClass own = some m.cls)
    (w1 : (Jvm.Cond.methodLink own index y).before a0 Z = true) (w2 : (Jvm.Cond.declares y).before a0 Z = true) (nf : NotFace s y) (w3 : (Jvm.Cond.selects C y z).before a0 Z = true) (w4 : (Jvm.Cond.instanceMethod z).before a0 Z = true) (hy : y.cls ≠ "java/lang/invoke/MethodHandle" ∧ y.cls ≠ "java/lang/invoke/VarHandle")
    {W : Nat} (F : Option Value → Prop) {b : Addr} {argsL rest : List Value} (hE : Exa Z h b C) (hK : Back l R p e below s args z 3 W (fun A a => a = (Value.ref b :: argsL).toArray ∧ A.U.heap = h ∧ A.cells + 0 ≤ R.cells ∧ A.slots + 0 ≤ R.slots) (fun A _ v B => ∃ L, (F v ∧ L = [] ∧ B.U.heap = h) ∧ B.locs = A.locs ++ L ∧ B.cells = A.cells + 0 ∧ B.slots = A.slots + 0)) (hcl : cells ≤ R.cells) (hsl : slots ≤ R.slots) (eT : T.heap = h)
    {pc : Nat} {Ls : Array Slot} {st : List Value} (hsz : Ls.size = c.maxLocals) {ps : List FieldType} {r' : Option FieldType} (hds : parseMethodDescriptor y.desc = some ⟨ps, r'⟩) (hlen : argsL.length = ps.length) (hst : st = argsL.reverse ++ .ref b :: rest) (hW : 2 * 0 + (rest.map fun v => v.category).sum ≤ W) (hd : decode c.code pc = .ok (.invokevirtual index, 3))
    (k : ∀ (v : Option Value) (T' : State), Stand p l e R s m args below meth c T' locs cells slots → T'.heap = h → F v → Gl p e below G (T'.setTop (mkF m (pc + 3) Ls (v.toList ++ rest)))) : Gl p e below G (T.setTop (mkF m pc Ls st)) := by
  obtain ⟨cq, kq, qa, qb, qc⟩ := isOf hZ eT hE
  obtain ⟨v, _, ⟨T', L', k', n'⟩, -, X', ⟨Lc, ⟨hF, hL, hH⟩, l1, y1, z1⟩, stp⟩ := X.virtualBack hx (y := y) (z := z) hown (mvT hZ w1) (mvT hZ w2) nf (mvT hZ w3) (mvT hZ w4) hy hK qa qc (g := mkF m pc Ls st) rfl hsz (Steps.refl _) (argsL := argsL) (rest := rest) (lenOf hds hlen) hst hW hd (fun _ _ => ⟨rfl, eT, hcl, hsl⟩)
  dsimp only [Pt.U, Pt.locs, Pt.cells, Pt.slots] at X' l1 y1 z1 stp hH
  subst l1 y1 z1 hL
  rw [List.append_nil] at X'
  exact Gl.of (fun t q => stp.trans q) (k v T' X' hH hF)
/-- a static call of a callee that may intern -/
theorem Gl.callSW {G : State → Outcome → Prop} {vm0 : Vm} {k0 : Nat} (X : Stand p l e R (s.setVm vm0) m args below meth c T locs cells slots) (hx : p.tables.exec = Jvm.exec) (hZ : Z.Warmed39 (s.setVm vm0).vm) (hS : s.Since vm0 k0) (hk : k0 ≤ h.size) {own : String} {index : Nat} {y : MethodName} {bytes : ByteArray} {maxL : Nat} {rt : Option FieldType} (hown : (s.setVm vm0).vm.findClass own = some m.cls)
    (w1 : (Jvm.Cond.methodLink own index y).before a0 Z = true) (w2 : (Jvm.Cond.static y).before a0 Z = true) (w3 : (Jvm.Cond.initialized y.cls).before a0 Z = true) (w4 : (Jvm.Cond.code y bytes maxL rt).before a0 Z = true) (hy : y.cls ≠ "java/lang/invoke/MethodHandle" ∧ y.cls ≠ "java/lang/invoke/VarHandle")
    {rm : Room} {Q : Option Value → Heap → List Loc → Prop} {argsL rest : List Value} (hM : ConW l Z y bytes maxL rt [] rm rm.cells rm.slots argsL.toArray h Q) (W : Nat) (hf : rm.frames + 1 ≤ R.frames) (hl : W + (maxL + 11) + rm.locals ≤ R.locals) (hcl : cells + rm.cells ≤ R.cells) (hsl : slots + rm.slots ≤ R.slots) (eT : T.heap = h)
    {pc : Nat} {Ls : Array Slot} {st : List Value} (hsz : Ls.size = c.maxLocals) {ps : List FieldType} {r' : Option FieldType} (hds : parseMethodDescriptor y.desc = some ⟨ps, r'⟩) (hlen : argsL.length = ps.length) (hst : st = argsL.reverse ++ rest) (hW : 2 * 0 + (rest.map fun v => v.category).sum ≤ W) (hd : decode c.code pc = .ok (.invokestatic index, 3))
    (k : ∀ (v : Option Value) (T' : State) (L : List Loc), Stand p l e R (s.setVm T'.vm) m args below meth c T' (locs ++ L) (cells + rm.cells) (slots + rm.slots) → s.Since T'.vm T'.heap.size → Z.Warmed39 (s.setVm T'.vm).vm → (s.setVm T'.vm).vm.findClass own = some m.cls → Q v T'.heap L → Gl p e below G (T'.setTop (mkF m (pc + 3) Ls (v.toList ++ rest)))) : Gl p e below G (T.setTop (mkF m pc Ls st)) := by
  obtain ⟨v, _, ⟨T', L', k', n'⟩, -, X', hS', hg', ⟨Lc, hQ, l1, y1, z1⟩, stp⟩ := callSS X hx (y := y) hown (mvT hZ w1) (mvT hZ w2) (mvT hZ w3) (mvT hZ w4) hy (backOfS (W := W) hM hZ w4 w3 hf hl) (g := mkF m pc Ls st) rfl hsz (argsL := argsL) (rest := rest) (lenOf hds hlen) hst hW hd (fun _ _ => ⟨rfl, eT, hcl, hsl⟩)
  dsimp only [Pt.U, Pt.locs, Pt.cells, Pt.slots] at X' l1 y1 z1 stp hQ hS' hg'
  subst l1 y1 z1
  rw [eT] at hg'
  obtain ⟨q1, q2, q3, q4⟩ := rebS hS hk X' hS' hg' hZ hown
  exact Gl.of (fun t q => stp.trans q) (k v T' Lc q1 q2 q3 q4 hQ)
/-- a constructor that may intern -/
theorem Gl.callIW {G : State → Outcome → Prop} {vm0 : Vm} {k0 : Nat} (X : Stand p l e R (s.setVm vm0) m args below meth c T locs cells slots) (hx : p.tables.exec = Jvm.exec) (hZ : Z.Warmed39 (s.setVm vm0).vm) (hS : s.Since vm0 k0) (hk : k0 ≤ h.size) {own : String} {index : Nat} {y : MethodName} {bytes : ByteArray} {maxL : Nat} (hy1 : y.name = "<init>") (hown : (s.setVm vm0).vm.findClass own = some m.cls)
    (w1 : (Jvm.Cond.methodLink own index y).before a0 Z = true) (w2 : (Jvm.Cond.instanceMethod y).before a0 Z = true) (w3 : (Jvm.Cond.initialized y.cls).before a0 Z = true) (w4 : (Jvm.Cond.code y bytes maxL none).before a0 Z = true) (hy : y.cls ≠ "java/lang/invoke/MethodHandle" ∧ y.cls ≠ "java/lang/invoke/VarHandle")
    {rm : Room} {Q : Option Value → Heap → List Loc → Prop} {b : Addr} {argsL rest : List Value} (hM : ConW l Z y bytes maxL none [] rm rm.cells rm.slots (Value.ref b :: argsL).toArray h Q) (W : Nat) (hf : rm.frames + 1 ≤ R.frames) (hl : W + (maxL + 11) + rm.locals ≤ R.locals) (hcl : cells + rm.cells ≤ R.cells) (hsl : slots + rm.slots ≤ R.slots) (eT : T.heap = h)
    {pc : Nat} {Ls : Array Slot} {st : List Value} (hsz : Ls.size = c.maxLocals) {ps : List FieldType} {r' : Option FieldType} (hds : parseMethodDescriptor y.desc = some ⟨ps, r'⟩) (hlen : argsL.length = ps.length) (hst : st = argsL.reverse ++ .ref b :: rest) (hW : 2 * 0 + (rest.map fun v => v.category).sum ≤ W) (hd : decode c.code pc = .ok (.invokespecial index, 3))
    (k : ∀ (v : Option Value) (T' : State) (L : List Loc), Stand p l e R (s.setVm T'.vm) m args below meth c T' (locs ++ L) (cells + rm.cells) (slots + rm.slots) → s.Since T'.vm T'.heap.size → Z.Warmed39 (s.setVm T'.vm).vm → (s.setVm T'.vm).vm.findClass own = some m.cls → Q v T'.heap L → Gl p e below G (T'.setTop (mkF m (pc + 3) Ls (v.toList ++ rest)))) : Gl p e below G (T.setTop (mkF m pc Ls st)) := by
  obtain ⟨v, _, ⟨T', L', k', n'⟩, -, X', hS', hg', ⟨Lc, hQ, l1, y1, z1⟩, stp⟩ := X.specialBackS hx (y := y) hy1 hown (mvT hZ w1) (mvT hZ w2) (mvT hZ w4) hy (backOfS (W := W) hM hZ w4 w3 hf hl) (g := mkF m pc Ls st) rfl hsz (Steps.refl _) (a := b) (argsL := argsL) (rest := rest) (lenOf hds hlen) hst hW hd (fun _ _ => ⟨rfl, eT, hcl, hsl⟩)
  dsimp only [Pt.U, Pt.locs, Pt.cells, Pt.slots] at X' l1 y1 z1 stp hQ hS' hg'
  subst l1 y1 z1
  rw [eT] at hg'
  obtain ⟨q1, q2, q3, q4⟩ := rebS hS hk X' hS' hg' hZ hown
  exact Gl.of (fun t q => stp.trans q) (k v T' Lc q1 q2 q3 q4 hQ)
/-- an instance method that may intern -/
theorem Gl.callVW {G : State → Outcome → Prop} {vm0 : Vm} {k0 : Nat} (X : Stand p l e R (s.setVm vm0) m args below meth c T locs cells slots) (hx : p.tables.exec = Jvm.exec) (hZ : Z.Warmed39 (s.setVm vm0).vm) (hS : s.Since vm0 k0) (hk : k0 ≤ h.size) {own C : String} {index : Nat} {y z : MethodName} {bytes : ByteArray} {maxL : Nat} {rt : Option FieldType} (hown : (s.setVm vm0).vm.findClass own = some m.cls)
    (w1 : (Jvm.Cond.methodLink own index y).before a0 Z = true) (w2 : (Jvm.Cond.declares y).before a0 Z = true) (nf : NotFace (s.setVm vm0) y) (w5 : (Jvm.Cond.selects C y z).before a0 Z = true) (w6 : (Jvm.Cond.instanceMethod z).before a0 Z = true) (w4 : (Jvm.Cond.code z bytes maxL rt).before a0 Z = true) (w3 : (Jvm.Cond.initialized z.cls).before a0 Z = true) (hy : y.cls ≠ "java/lang/invoke/MethodHandle" ∧ y.cls ≠ "java/lang/invoke/VarHandle")
    {rm : Room} {Q : Option Value → Heap → List Loc → Prop} {b : Addr} {argsL rest : List Value} (hE : Exa Z h b C) (hM : ConW l Z z bytes maxL rt [] rm rm.cells rm.slots (Value.ref b :: argsL).toArray h Q) (W : Nat) (hf : rm.frames + 1 ≤ R.frames) (hl : W + (maxL + 11) + rm.locals ≤ R.locals) (hcl : cells + rm.cells ≤ R.cells) (hsl : slots + rm.slots ≤ R.slots) (eT : T.heap = h)
    {pc : Nat} {Ls : Array Slot} {st : List Value} (hsz : Ls.size = c.maxLocals) {ps : List FieldType} {r' : Option FieldType} (hds : parseMethodDescriptor y.desc = some ⟨ps, r'⟩) (hlen : argsL.length = ps.length) (hst : st = argsL.reverse ++ .ref b :: rest) (hW : 2 * 0 + (rest.map fun v => v.category).sum ≤ W) (hd : decode c.code pc = .ok (.invokevirtual index, 3))
    (k : ∀ (v : Option Value) (T' : State) (L : List Loc), Stand p l e R (s.setVm T'.vm) m args below meth c T' (locs ++ L) (cells + rm.cells) (slots + rm.slots) → s.Since T'.vm T'.heap.size → Z.Warmed39 (s.setVm T'.vm).vm → (s.setVm T'.vm).vm.findClass own = some m.cls → Q v T'.heap L → Gl p e below G (T'.setTop (mkF m (pc + 3) Ls (v.toList ++ rest)))) : Gl p e below G (T.setTop (mkF m pc Ls st)) := by
  obtain ⟨cq, kq, qa, qb, qc⟩ := isOf hZ eT hE
  obtain ⟨v, _, ⟨T', L', k', n'⟩, -, X', hS', hg', ⟨Lc, hQ, l1, y1, z1⟩, stp⟩ := X.virtualBackS hx (y := y) (z := z) hown (mvT hZ w1) (mvT hZ w2) nf (mvT hZ w5) (mvT hZ w6) hy (backOfS (W := W) hM hZ w4 w3 hf hl) qa qc (g := mkF m pc Ls st) rfl hsz (Steps.refl _) (argsL := argsL) (rest := rest) (lenOf hds hlen) hst hW hd (fun _ _ => ⟨rfl, eT, hcl, hsl⟩)
  dsimp only [Pt.U, Pt.locs, Pt.cells, Pt.slots] at X' l1 y1 z1 stp hQ hS' hg'
  subst l1 y1 z1
  rw [eT] at hg'
  obtain ⟨q1, q2, q3, q4⟩ := rebS hS hk X' hS' hg' hZ hown
  exact Gl.of (fun t q => stp.trans q) (k v T' Lc q1 q2 q3 q4 hQ)
theorem nf_same {y y' : MethodName} {C : String} (hc : y'.cls = y.cls) (w : (Jvm.Cond.selects C y y).before args s = true) : NotFace s y' := fun r0 h0 => by
  obtain ⟨c2, r2, m2, q1, q2, q3, q4, kP, hkP, hkPi⟩ := Cond.selects_spec w
  have a := findClass_of_methodNamed h0
  rw [hc] at a
  have b := Option.some.inj (a.symm.trans (findClass_of_methodNamed q3))
  exact ⟨kP, by rw [b]; exact hkP, hkPi⟩
theorem fld_ne {a b : Addr} {C n d : String} {v w : Value} (F : Fld Z h a C n d v) (G : Fld Z h b C n d w) (hn : v ≠ w) : ¬ a = b := fun e => by
  subst e
  obtain ⟨c1, cf, k, i, f, h1, h2, -, -, -, -, h7⟩ := F
  obtain ⟨c2, cf', k', i', f', g1, g2, -, -, -, -, g7⟩ := G
  cases h1.symm.trans g1
  cases h2.symm.trans g2
  exact hn (Option.some.inj (h7.symm.trans g7))
theorem own_nb1 : nar .boolean 1 = 1 := rfl
theorem own_nb0 : nar .boolean 0 = 0 := rfl
/-- the words of a case: an equation with an int -/
theorem eq_at {args : Array Value} {s : State} {t : Term} {idx : List Nat} {z : Int32} (h : (Jvm.Cond.eq t (.int z)).value args s none s idx = some true) : t.eval args s none idx s = some (.int z) := by
  obtain ⟨x, y', e1, e2, k1, k2⟩ := cmp_v (Or.inl h)
  cases (Term.int_eval z).symm.trans e2
  obtain ⟨z', rfl⟩ : ∃ z', x = .int z' := k2
  exact e1.trans (congrArg (fun z => some (Value.int z)) (gotT (Cond.eq_ints e1 (Term.int_eval z)) h))
theorem eqR_at {args : Array Value} {s : State} {t u : Term} {idx : List Nat} {a : Addr} (h : (Jvm.Cond.eq t u).value args s none s idx = some true) (hu : u.eval args s none idx s = some (.ref a)) : t.eval args s none idx s = some (.ref a) := by
  obtain ⟨x, y', e1, e2, k1, k2⟩ := cmp_v (Or.inl h)
  cases hu.symm.trans e2
  have hx : x.isRef = true := k2.2
  have q := gotT (eq_R e1 hu hx rfl) h
  rw [q] at e1
  exact e1
theorem len_at {args : Array Value} {s : State} {t : Term} {z : Int32} {a : Addr} {cl : Cell} (h : (Term.length t).eval args s none [] s = some (.int z)) (ht : t.eval args s none [] s = some (.ref a)) (ha : s.arrayAt? a = some cl) : cl.slots.size.toInt32 = z ∧ cl.slots.size < 2 ^ 31 := by
  by_cases q : cl.slots.size < 2 ^ 31
  · rw [len_f ht ha q] at h
    cases h
    exact ⟨rfl, q⟩
  · simp [Term.eval, ht, ha, q] at h
theorem len_sz {n : Nat} {z : Int32} (h : n.toInt32 = z) (q : n < 2 ^ 31) : n = z.toNatClampNeg := by
  rw [← h]; simp only [Int32.toNatClampNeg, len_toInt q]; rfl
end Own
theorem own_ws {Z : State} {a0 : Array Value} (hw : ∀ d ∈ tables_1, d.before a0 Z = true) : ∀ d ∈ StrChars.Road.words, d.before a0 Z = true := fun d hd => hw d ((by decide +kernel : ∀ d ∈ StrChars.Road.words, d ∈ tables_1) d hd)
theorem own_wln {Z : State} {a0 : Array Value} (hw : ∀ d ∈ tables_1, d.before a0 Z = true) : ∀ d ∈ StrChars.Road.wordsLen, d.before a0 Z = true := fun d hd => hw d ((by decide +kernel : ∀ d ∈ StrChars.Road.wordsLen, d ∈ tables_1) d hd)
theorem own_wch {Z : State} {a0 : Array Value} (hw : ∀ d ∈ tables_1, d.before a0 Z = true) : ∀ d ∈ StrChars.Road.wordsChN, d.before a0 Z = true := fun d hd => hw d ((by decide +kernel : ∀ d ∈ StrChars.Road.wordsChN, d ∈ tables_1) d hd)
theorem own_c255 (x : Int32) : ¬ nar .char ((x &&& (255 : Int32)).toUInt32.toUInt16.toUInt32.toInt32) < 0 ∧ ¬ (255 : Int32) < nar .char ((x &&& (255 : Int32)).toUInt32.toUInt16.toUInt32.toInt32) := by
  have e : nar .char ((x &&& (255 : Int32)).toUInt32.toUInt16.toUInt32.toInt32) = x &&& 255 := by
    show ((x &&& (255 : Int32)).toUInt32.toUInt16.toUInt32.toInt32).toUInt32.toUInt16.toUInt32.toInt32 = x &&& 255
    rw [i2c_mask, i2c_mask]
  rw [e]
  have h : (x &&& (255 : Int32)).toInt = x.toInt % 2 ^ 8 := Jvm.Kit.i32_mask x 255 (k := 8) (by decide) (by decide)
  have e0 : (0 : Int32).toInt = 0 := rfl
  have e1 : (255 : Int32).toInt = 255 := rfl
  simp only [Int32.lt_iff_toInt_lt, h]
  omega
theorem own_up (cs : List Int32) (h : ∀ c ∈ cs, ¬ c < 0 ∧ ¬ (255 : Int32) < c) : ∀ c ∈ cs, ¬ c < 0 ∧ ¬ (65535 : Int32) < c := fun c hc => ⟨(h c hc).1, fun q => (h c hc).2 (by rw [Int32.lt_iff_toInt_lt] at q ⊢; have e1 : (65535 : Int32).toInt = 65535 := rfl; have e2 : (255 : Int32).toInt = 255 := rfl; omega)⟩
theorem own_cons {P : Int32 → Prop} {x : Int32} {xs : List Int32} (h : P x) (hs : ∀ c ∈ xs, P c) : ∀ c ∈ x :: xs, P c := fun c hc => by
  rcases List.mem_cons.mp hc with rfl | hc
  · exact h
  · exact hs c hc
theorem own_nil {P : Int32 → Prop} : ∀ c ∈ ([] : List Int32), P c := fun c hc => nomatch hc
def Strg (Z : State) (h : Heap) (x t : Addr) (kb : ClassId) (cs : List Int32) : Prop := Exa Z h x "java/lang/String" ∧ Fld Z h x "java/lang/String" "value" "[B" (.ref t) ∧ Fld Z h x "java/lang/String" "coder" "B" (.int 0) ∧ Arv Z h t kb .byte (Int32.ofNat cs.length) ((cs.map (fun c => c.toInt8.toInt32)).map Value.int) (.int 0) ∧ (∀ c ∈ cs, ¬ c < 0 ∧ ¬ (255 : Int32) < c) ∧ cs.length ≤ 4000
theorem Strg.ext {Z : State} {h h' : Heap} {x t : Addr} {kb : ClassId} {cs : List Int32} (G : Strg Z h x t kb cs) (E : Ext h h') : Strg Z h' x t kb cs := ⟨G.1.ext E, G.2.1.ext E, G.2.2.1.ext E, G.2.2.2.1.ext E, G.2.2.2.2⟩
theorem Strg.keep {Z : State} {h h' : Heap} {x t : Addr} {kb : ClassId} {cs : List Int32} {ws : List Addr} (G : Strg Z h x t kb cs) (K : Keep h h' ws) (q : x ∉ ws) (q' : t ∉ ws) : Strg Z h' x t kb cs := ⟨G.1.keep K, G.2.1.keep K q, G.2.2.1.keep K q, G.2.2.2.1.keep K q', G.2.2.2.2⟩
theorem Strg.wr {Z : State} {h h' : Heap} {x t a : Addr} {sl : Nat} {v : Value} {kb : ClassId} {cs : List Int32} (G : Strg Z h x t kb cs) (W : Wr h h' a sl v) (q : x ≠ a) (q' : t ≠ a) : Strg Z h' x t kb cs := ⟨G.1.wr W, G.2.1.other W (Or.inl q), G.2.2.1.other W (Or.inl q), G.2.2.2.1.other W q', G.2.2.2.2⟩
theorem Strg.lt {Z : State} {h : Heap} {x t : Addr} {kb : ClassId} {cs : List Int32} (G : Strg Z h x t kb cs) : x < h.size := G.1.lt
theorem Strg.lt' {Z : State} {h : Heap} {x t : Addr} {kb : ClassId} {cs : List Int32} (G : Strg Z h x t kb cs) : t < h.size := G.2.2.2.1.lt
theorem Strg.cod {Z : State} {h : Heap} {x t : Addr} {kb : ClassId} {cs : List Int32} (G : Strg Z h x t kb cs) : StrChars.Road.CodA cs 0 (Int32.ofNat cs.length) ((cs.map (fun c => c.toInt8.toInt32)).map Value.int) := StrChars.Road.codOf rfl (fun c hc => (G.2.2.2.2.1 c hc).2)
theorem Strg.up {Z : State} {h : Heap} {x t : Addr} {kb : ClassId} {cs : List Int32} (G : Strg Z h x t kb cs) : ∀ c ∈ cs, ¬ c < 0 ∧ ¬ (65535 : Int32) < c := own_up _ G.2.2.2.2.1
theorem own_str {Z : State} {a0 : Array Value} (hw : ∀ d ∈ tables_1, d.before a0 Z = true) : ∀ a ∈ Bundle.stringAtoms, a.before a0 Z = true := fun d hd => hw d ((by decide +kernel : ∀ d ∈ Bundle.stringAtoms, d ∈ tables_1) d hd)
section OwnH
variable {p : Program} {l : Launch} {e : Env} {R : Room} {s : State} {m : MethodId} {args : Array Value} {below : List Frame} {meth : Method} {c : Code} {T : State} {locs : List Loc} {cells slots : Nat} {Z : State} {a0 : Array Value} {h : Heap}
variable {EL : List (String × Nat)}
def GdH (Z : State) (EL : List (String × Nat)) (s : State) (Q : Option Value → Heap → List Loc → Prop) (C N : Nat) (t : State) (o : Outcome) : Prop := ∃ v L, o = .returned v ∧ Q v t.heap L ∧ CHr Z EL s.vm s.heap t.vm t.heap ∧ ReturnedEndW s o t L C N
def ConH (l : Launch) (Z : State) (EL : List (String × Nat)) (y : MethodName) (bytes : ByteArray) (maxL : Nat) (rt : Option FieldType) (ws : List Jvm.Cond) (rm : Room) (C N : Nat) (as : Array Value) (h : Heap) (Q : Option Value → Heap → List Loc → Prop) : Prop :=
  MetFree l y (head1 (Jvm.Cond.code y bytes maxL rt :: ws) rm) (fun a U => a = as ∧ Z.Warmed39 U.vm ∧ U.heap = h ∧ CHv Z EL U.vm h) (fun _ _ _ _ _ => True) (fun _ U o U' => ∃ v L, o = .returned v ∧ Q v U'.heap L ∧ CHr Z EL U.vm U.heap U'.vm U'.heap ∧ ReturnedEndW U o U' L C N)
theorem ConH.intro {y : MethodName} {bytes : ByteArray} {maxL : Nat} {rt : Option FieldType} {ws : List Jvm.Cond} {rm : Room} {C N : Nat} {as : Array Value} {Q : Option Value → Heap → List Loc → Prop} (hp : plainFor y = true)
    (body : ∀ p e s m below meth c s₁, Stand p l e rm s m as below meth c s₁ [] 0 0 → p.tables.exec = Jvm.exec → c.code = bytes → c.maxLocals = maxL → Z.Warmed39 s.vm → s.vm.findClass y.cls = some m.cls → meth.name = y.name → meth.sig.returnType = rt → meth.locks = false → s₁.heap = h → s.heap = h → CHr Z EL s.vm s.heap s.vm h →
      Gl p e below (GdH Z EL s Q C N) (s₁.setTop (entryFrame m as maxL))) : ConH l Z EL y bytes maxL rt ws rm C N as h Q := by
  refine MetFree.of_bodySF hp hisR ?_
  intro p e s m args below meth c s₁ Bd hml0 hP hK
  obtain ⟨rfl, hZ, hh, hC⟩ := hP
  exact body p e s m below meth c s₁ (Stand.of_body Bd) Bd.exec Bd.bytes hml0 hZ (findClass_of_methodNamed Bd.named) (name_of_methodNamed Bd.named Bd.method).1 Bd.returns (BodyLoose.notSynchronized Bd) (by rw [← hh, Bd.state]; rfl) hh (by rw [hh]; exact CHr.refl hC)
theorem Gl.leafH {Q : Option Value → Heap → List Loc → Prop} {C N n : Nat} {vm₁ : Vm} (X : Stand p l e R (s.setVm vm₁) m args below meth c T locs cells slots) (hlk : meth.locks = false) {v : Option Value} (hv : meth.sig.returnType = none → v = none) {S : State}
    (st : ∀ fs, (∀ (f : JFrame) (acts : List Action), f.method = m → f.locked = none → f.entered = [] → (doReturn e (T.setTop f) acts v).1 = T.setFrames fs) → Steps p.tables e below S (T.setFrames fs)) (eT : T.heap = h) (hQ : Q v h locs) (hS : s.Since vm₁ n) (hn : n ≤ h.size) (hZ : Z.Warmed39 vm₁) (hEL : EW Z a0 EL) (hR : CHr Z EL s.vm s.heap vm₁ h) (hC : cells ≤ C) (hN : slots ≤ N) : Gl p e below (GdH Z EL s Q C N) S := by
  obtain ⟨fs, hr, hrun, hended, hW⟩ := X.leaveW hS (by rw [eT]; exact hn) (v := v) hv hlk
  exact ⟨_, _, st fs hr, hrun, hended, v, locs, rfl, by show Q v T.heap locs; rw [eT]; exact hQ, by show CHr Z EL s.vm s.heap T.vm T.heap; rw [eT]; exact hR.trans (CHv.at X hZ hEL hR.1), hW.1, hW.2.1, hW.2.2.1, hW.2.2.2.mono hC hN⟩
theorem Gl.retNH {Q : Option Value → Heap → List Loc → Prop} {C N n : Nat} {vm₁ : Vm} (X : Stand p l e R (s.setVm vm₁) m args below meth c T locs cells slots) (hx : p.tables.exec = Jvm.exec) (hlk : meth.locks = false) {t : FieldType} (hret : meth.sig.returnType = some t) (ht : t = .boolean ∨ t = .byte ∨ t = .char ∨ t = .short) {pc : Nat} {Ls : Array Slot} {z : Int32} {rest : List Value} (hd : decode c.code pc = .ok (.ireturn, 1))
    (eT : T.heap = h) (hQ : Q (some (.int (nar t z))) h locs) (hS : s.Since vm₁ n) (hn : n ≤ h.size) (hZ : Z.Warmed39 vm₁) (hEL : EW Z a0 EL) (hR : CHr Z EL s.vm s.heap vm₁ h) (hC : cells ≤ C) (hN : slots ≤ N) : Gl p e below (GdH Z EL s Q C N) (T.setTop (mkF m pc Ls (.int z :: rest))) :=
  Gl.leafH X hlk (fun q => by rw [hret] at q; cases q) (fun fs hr => Jvm.RoadKit.retN X hx hret ht hd hr) eT hQ hS hn hZ hEL hR hC hN
theorem Gl.retRH {Q : Option Value → Heap → List Loc → Prop} {C N n : Nat} {vm₁ : Vm} (X : Stand p l e R (s.setVm vm₁) m args below meth c T locs cells slots) (hx : p.tables.exec = Jvm.exec) (hlk : meth.locks = false) {t : FieldType} (hret : meth.sig.returnType = some t) (ht : t.isReference = true) {pc : Nat} {Ls : Array Slot} {w : Value} (hw : w.isRef = true) {rest : List Value} (hd : decode c.code pc = .ok (.areturn, 1))
    (eT : T.heap = h) (hQ : Q (some w) h locs) (hS : s.Since vm₁ n) (hn : n ≤ h.size) (hZ : Z.Warmed39 vm₁) (hEL : EW Z a0 EL) (hR : CHr Z EL s.vm s.heap vm₁ h) (hC : cells ≤ C) (hN : slots ≤ N) : Gl p e below (GdH Z EL s Q C N) (T.setTop (mkF m pc Ls (w :: rest))) :=
  Gl.leafH X hlk (fun q => by rw [hret] at q; cases q) (fun fs hr => retOut X hx hret (by cases t <;> first | (cases ht; done) | (rcases ref_cases hw with rfl | ⟨_, rfl⟩ <;> rfl)) (Or.inr (Or.inr (Or.inr (Or.inr ⟨rfl, ht, hw⟩)))) hd hr) eT hQ hS hn hZ hEL hR hC hN
theorem Gl.ret0H {Q : Option Value → Heap → List Loc → Prop} {C N n : Nat} {vm₁ : Vm} (X : Stand p l e R (s.setVm vm₁) m args below meth c T locs cells slots) (hx : p.tables.exec = Jvm.exec) (hlk : meth.locks = false) (hret : meth.sig.returnType = none) {pc : Nat} {Ls : Array Slot} (hd : decode c.code pc = .ok (.return_, 1))
    (eT : T.heap = h) (hQ : Q none h locs) (hS : s.Since vm₁ n) (hn : n ≤ h.size) (hZ : Z.Warmed39 vm₁) (hEL : EW Z a0 EL) (hR : CHr Z EL s.vm s.heap vm₁ h) (hC : cells ≤ C) (hN : slots ≤ N) : Gl p e below (GdH Z EL s Q C N) (T.setTop (mkF m pc Ls [])) :=
  Gl.leafH X hlk (fun _ => rfl) (fun fs hr => X.returnOut hx hret hd hr) eT hQ hS hn hZ hEL hR hC hN
theorem Gl.callSH {G : State → Outcome → Prop} {vm0 : Vm} {k0 : Nat} (X : Stand p l e R (s.setVm vm0) m args below meth c T locs cells slots) (hx : p.tables.exec = Jvm.exec) (hZ : Z.Warmed39 (s.setVm vm0).vm) (hS : s.Since vm0 k0) (hk : k0 ≤ h.size) {vmS : Vm} {hh0 : Heap} (hEL : EW Z a0 EL) (hR : CHr Z EL vmS hh0 vm0 h) {own : String} {index : Nat} {y : MethodName} {bytes : ByteArray} {maxL : Nat} {rt : Option FieldType} (hown : (s.setVm vm0).vm.findClass own = some m.cls)
    (w1 : (Jvm.Cond.methodLink own index y).before a0 Z = true) (w2 : (Jvm.Cond.static y).before a0 Z = true) (w3 : (Jvm.Cond.initialized y.cls).before a0 Z = true) (w4 : (Jvm.Cond.code y bytes maxL rt).before a0 Z = true) (hy : y.cls ≠ "java/lang/invoke/MethodHandle" ∧ y.cls ≠ "java/lang/invoke/VarHandle")
    {rm : Room} {Q : Option Value → Heap → List Loc → Prop} {argsL rest : List Value} (hM : ConH l Z EL y bytes maxL rt [] rm rm.cells rm.slots argsL.toArray h Q) (W : Nat) (hf : rm.frames + 1 ≤ R.frames) (hl : W + (maxL + 11) + rm.locals ≤ R.locals) (hcl : cells + rm.cells ≤ R.cells) (hsl : slots + rm.slots ≤ R.slots) (eT : T.heap = h)
    {pc : Nat} {Ls : Array Slot} {st : List Value} (hsz : Ls.size = c.maxLocals) {ps : List FieldType} {r' : Option FieldType} (hds : parseMethodDescriptor y.desc = some ⟨ps, r'⟩) (hlen : argsL.length = ps.length) (hst : st = argsL.reverse ++ rest) (hW : 2 * 0 + (rest.map fun v => v.category).sum ≤ W) (hd : decode c.code pc = .ok (.invokestatic index, 3))
    (k : ∀ (v : Option Value) (T' : State) (L : List Loc), Stand p l e R (s.setVm T'.vm) m args below meth c T' (locs ++ L) (cells + rm.cells) (slots + rm.slots) → s.Since T'.vm T'.heap.size → Z.Warmed39 (s.setVm T'.vm).vm → (s.setVm T'.vm).vm.findClass own = some m.cls → Q v T'.heap L → CHr Z EL vmS hh0 T'.vm T'.heap → Gl p e below G (T'.setTop (mkF m (pc + 3) Ls (v.toList ++ rest)))) : Gl p e below G (T.setTop (mkF m pc Ls st)) := by
  obtain ⟨v, _, ⟨T', L', k', n'⟩, -, X', hS', hg', ⟨Lc, hQ, l1, y1, z1, r1⟩, stp⟩ := callSS X hx (y := y) hown (mvT hZ w1) (mvT hZ w2) (mvT hZ w3) (mvT hZ w4) hy (backOfSH (W := W) hM hZ w4 w3 hf hl hEL hR.1) (g := mkF m pc Ls st) rfl hsz (argsL := argsL) (rest := rest) (lenOf hds hlen) hst hW hd (fun _ _ => ⟨rfl, eT, hcl, hsl⟩)
  dsimp only [Pt.U, Pt.locs, Pt.cells, Pt.slots] at X' l1 y1 z1 stp hQ hS' hg' r1
  subst l1 y1 z1
  rw [eT] at hg'
  obtain ⟨q1, q2, q3, q4⟩ := rebS hS hk X' hS' hg' hZ hown
  exact Gl.of (fun t q => stp.trans q) (k v T' Lc q1 q2 q3 q4 hQ (hR.trans r1))
theorem Gl.callIH {G : State → Outcome → Prop} {vm0 : Vm} {k0 : Nat} (X : Stand p l e R (s.setVm vm0) m args below meth c T locs cells slots) (hx : p.tables.exec = Jvm.exec) (hZ : Z.Warmed39 (s.setVm vm0).vm) (hS : s.Since vm0 k0) (hk : k0 ≤ h.size) {vmS : Vm} {hh0 : Heap} (hEL : EW Z a0 EL) (hR : CHr Z EL vmS hh0 vm0 h) {own : String} {index : Nat} {y : MethodName} {bytes : ByteArray} {maxL : Nat} (hy1 : y.name = "<init>") (hown : (s.setVm vm0).vm.findClass own = some m.cls)
    (w1 : (Jvm.Cond.methodLink own index y).before a0 Z = true) (w2 : (Jvm.Cond.instanceMethod y).before a0 Z = true) (w3 : (Jvm.Cond.initialized y.cls).before a0 Z = true) (w4 : (Jvm.Cond.code y bytes maxL none).before a0 Z = true) (hy : y.cls ≠ "java/lang/invoke/MethodHandle" ∧ y.cls ≠ "java/lang/invoke/VarHandle")
    {rm : Room} {Q : Option Value → Heap → List Loc → Prop} {b : Addr} {argsL rest : List Value} (hM : ConH l Z EL y bytes maxL none [] rm rm.cells rm.slots (Value.ref b :: argsL).toArray h Q) (W : Nat) (hf : rm.frames + 1 ≤ R.frames) (hl : W + (maxL + 11) + rm.locals ≤ R.locals) (hcl : cells + rm.cells ≤ R.cells) (hsl : slots + rm.slots ≤ R.slots) (eT : T.heap = h)
    {pc : Nat} {Ls : Array Slot} {st : List Value} (hsz : Ls.size = c.maxLocals) {ps : List FieldType} {r' : Option FieldType} (hds : parseMethodDescriptor y.desc = some ⟨ps, r'⟩) (hlen : argsL.length = ps.length) (hst : st = argsL.reverse ++ .ref b :: rest) (hW : 2 * 0 + (rest.map fun v => v.category).sum ≤ W) (hd : decode c.code pc = .ok (.invokespecial index, 3))
    (k : ∀ (v : Option Value) (T' : State) (L : List Loc), Stand p l e R (s.setVm T'.vm) m args below meth c T' (locs ++ L) (cells + rm.cells) (slots + rm.slots) → s.Since T'.vm T'.heap.size → Z.Warmed39 (s.setVm T'.vm).vm → (s.setVm T'.vm).vm.findClass own = some m.cls → Q v T'.heap L → CHr Z EL vmS hh0 T'.vm T'.heap → Gl p e below G (T'.setTop (mkF m (pc + 3) Ls (v.toList ++ rest)))) : Gl p e below G (T.setTop (mkF m pc Ls st)) := by
  obtain ⟨v, _, ⟨T', L', k', n'⟩, -, X', hS', hg', ⟨Lc, hQ, l1, y1, z1, r1⟩, stp⟩ := X.specialBackS hx (y := y) hy1 hown (mvT hZ w1) (mvT hZ w2) (mvT hZ w4) hy (backOfSH (W := W) hM hZ w4 w3 hf hl hEL hR.1) (g := mkF m pc Ls st) rfl hsz (Steps.refl _) (a := b) (argsL := argsL) (rest := rest) (lenOf hds hlen) hst hW hd (fun _ _ => ⟨rfl, eT, hcl, hsl⟩)
  dsimp only [Pt.U, Pt.locs, Pt.cells, Pt.slots] at X' l1 y1 z1 stp hQ hS' hg' r1
  subst l1 y1 z1
  rw [eT] at hg'
  obtain ⟨q1, q2, q3, q4⟩ := rebS hS hk X' hS' hg' hZ hown
  exact Gl.of (fun t q => stp.trans q) (k v T' Lc q1 q2 q3 q4 hQ (hR.trans r1))
theorem Gl.callVH {G : State → Outcome → Prop} {vm0 : Vm} {k0 : Nat} (X : Stand p l e R (s.setVm vm0) m args below meth c T locs cells slots) (hx : p.tables.exec = Jvm.exec) (hZ : Z.Warmed39 (s.setVm vm0).vm) (hS : s.Since vm0 k0) (hk : k0 ≤ h.size) {vmS : Vm} {hh0 : Heap} (hEL : EW Z a0 EL) (hR : CHr Z EL vmS hh0 vm0 h) {own C : String} {index : Nat} {y z : MethodName} {bytes : ByteArray} {maxL : Nat} {rt : Option FieldType} (hown : (s.setVm vm0).vm.findClass own = some m.cls)
    (w1 : (Jvm.Cond.methodLink own index y).before a0 Z = true) (w2 : (Jvm.Cond.declares y).before a0 Z = true) (nf : NotFace (s.setVm vm0) y) (w5 : (Jvm.Cond.selects C y z).before a0 Z = true) (w6 : (Jvm.Cond.instanceMethod z).before a0 Z = true) (w4 : (Jvm.Cond.code z bytes maxL rt).before a0 Z = true) (w3 : (Jvm.Cond.initialized z.cls).before a0 Z = true) (hy : y.cls ≠ "java/lang/invoke/MethodHandle" ∧ y.cls ≠ "java/lang/invoke/VarHandle")
    {rm : Room} {Q : Option Value → Heap → List Loc → Prop} {b : Addr} {argsL rest : List Value} (hE : Exa Z h b C) (hM : ConH l Z EL z bytes maxL rt [] rm rm.cells rm.slots (Value.ref b :: argsL).toArray h Q) (W : Nat) (hf : rm.frames + 1 ≤ R.frames) (hl : W + (maxL + 11) + rm.locals ≤ R.locals) (hcl : cells + rm.cells ≤ R.cells) (hsl : slots + rm.slots ≤ R.slots) (eT : T.heap = h)
    {pc : Nat} {Ls : Array Slot} {st : List Value} (hsz : Ls.size = c.maxLocals) {ps : List FieldType} {r' : Option FieldType} (hds : parseMethodDescriptor y.desc = some ⟨ps, r'⟩) (hlen : argsL.length = ps.length) (hst : st = argsL.reverse ++ .ref b :: rest) (hW : 2 * 0 + (rest.map fun v => v.category).sum ≤ W) (hd : decode c.code pc = .ok (.invokevirtual index, 3))
    (k : ∀ (v : Option Value) (T' : State) (L : List Loc), Stand p l e R (s.setVm T'.vm) m args below meth c T' (locs ++ L) (cells + rm.cells) (slots + rm.slots) → s.Since T'.vm T'.heap.size → Z.Warmed39 (s.setVm T'.vm).vm → (s.setVm T'.vm).vm.findClass own = some m.cls → Q v T'.heap L → CHr Z EL vmS hh0 T'.vm T'.heap → Gl p e below G (T'.setTop (mkF m (pc + 3) Ls (v.toList ++ rest)))) : Gl p e below G (T.setTop (mkF m pc Ls st)) := by
  obtain ⟨cq, kq, qa, qb, qc⟩ := isOf hZ eT hE
  obtain ⟨v, _, ⟨T', L', k', n'⟩, -, X', hS', hg', ⟨Lc, hQ, l1, y1, z1, r1⟩, stp⟩ := X.virtualBackS hx (y := y) (z := z) hown (mvT hZ w1) (mvT hZ w2) nf (mvT hZ w5) (mvT hZ w6) hy (backOfSH (W := W) hM hZ w4 w3 hf hl hEL hR.1) qa qc (g := mkF m pc Ls st) rfl hsz (Steps.refl _) (argsL := argsL) (rest := rest) (lenOf hds hlen) hst hW hd (fun _ _ => ⟨rfl, eT, hcl, hsl⟩)
  dsimp only [Pt.U, Pt.locs, Pt.cells, Pt.slots] at X' l1 y1 z1 stp hQ hS' hg' r1
  subst l1 y1 z1
  rw [eT] at hg'
  obtain ⟨q1, q2, q3, q4⟩ := rebS hS hk X' hS' hg' hZ hown
  exact Gl.of (fun t q => stp.trans q) (k v T' Lc q1 q2 q3 q4 hQ (hR.trans r1))
def ConE (l : Launch) (Z : State) (EL : List (String × Nat)) (y : MethodName) (bytes : ByteArray) (maxL : Nat) (rt : Option FieldType) (ws : List Jvm.Cond) (rm : Room) (C N : Nat) (as : Array Value) (h : Heap) (Q : Option Value → Heap → List Loc → Prop) : Prop :=
  MetFree l y (head1 (Jvm.Cond.code y bytes maxL rt :: ws) rm) (fun a U => a = as ∧ Z.Warmed39 U.vm ∧ U.heap = h ∧ CHv Z EL U.vm h) (fun _ _ _ _ _ => True) (fun _ U o U' => ∃ v L, o = .returned v ∧ Q v U'.heap L ∧ ReturnedEndW U o U' L C N)
theorem ConE.intro {y : MethodName} {bytes : ByteArray} {maxL : Nat} {rt : Option FieldType} {ws : List Jvm.Cond} {rm : Room} {C N : Nat} {as : Array Value} {Q : Option Value → Heap → List Loc → Prop} (hp : plainFor y = true)
    (body : ∀ p e s m below meth c s₁, Stand p l e rm s m as below meth c s₁ [] 0 0 → p.tables.exec = Jvm.exec → c.code = bytes → c.maxLocals = maxL → Z.Warmed39 s.vm → s.vm.findClass y.cls = some m.cls → meth.name = y.name → meth.sig.returnType = rt → meth.locks = false → s₁.heap = h → s.heap = h → CHr Z EL s.vm s.heap s.vm h →
      Gl p e below (GdW s Q C N) (s₁.setTop (entryFrame m as maxL))) : ConE l Z EL y bytes maxL rt ws rm C N as h Q := by
  refine MetFree.of_bodySF hp hisR ?_
  intro p e s m args below meth c s₁ Bd hml0 hP hK
  obtain ⟨rfl, hZ, hh, hC⟩ := hP
  exact body p e s m below meth c s₁ (Stand.of_body Bd) Bd.exec Bd.bytes hml0 hZ (findClass_of_methodNamed Bd.named) (name_of_methodNamed Bd.named Bd.method).1 Bd.returns (BodyLoose.notSynchronized Bd) (by rw [← hh, Bd.state]; rfl) hh (by rw [hh]; exact CHr.refl hC)
theorem own_backE {vm0 : Vm} {y : MethodName} {bytes : ByteArray} {maxL : Nat} {ret : Option FieldType} {rm : Room} {len W : Nat} {as' : Array Value} {Q : Option Value → Heap → List Loc → Prop}
    (hM : ConE l Z EL y bytes maxL ret [] rm rm.cells rm.slots as' h Q) (hZ : Z.Warmed39 vm0) (wc : (Jvm.Cond.code y bytes maxL ret).before a0 Z = true) (wz : (Jvm.Cond.initialized y.cls).before a0 Z = true) (hf : rm.frames + 1 ≤ R.frames) (hl : W + (maxL + 11) + rm.locals ≤ R.locals) (hEL : EW Z a0 EL) (H : CHv Z EL vm0 h) :
    BackS l R p e below (s.setVm vm0) args y len W (fun A a => a = as' ∧ A.U.heap = h ∧ A.cells + rm.cells ≤ R.cells ∧ A.slots + rm.slots ≤ R.slots)
      (fun A _ v B => ∃ L, Q v B.U.heap L ∧ B.locs = A.locs ++ L ∧ B.cells = A.cells + rm.cells ∧ B.slots = A.slots + rm.slots) :=
  BackS.of_freeW (bytes := bytes) (maxL := maxL) (ret := ret) (E := fun _ first o t L k n => k = rm.cells ∧ n = rm.slots ∧ ∃ v, o = .returned v ∧ Q v t.heap L) hM hf hl
    (fun m meth c A a Y hp => have hU : Z.Warmed39 A.U.vm := wtrans (s := s.setVm vm0) hZ Y.warmed
      ⟨by show (Jvm.Cond.and _ .tt).before a A.U = true; rw [Cond.before_and, mv hU wc]; rfl, mv hU wc, mv hU wz, hp.2.2.1, hp.2.2.2⟩)
    (fun m meth c A a g mk Y hp => ⟨hp.1, wtrans (s := s.setVm vm0) hZ Y.warmed, hp.2.1, (CHv.at Y hZ hEL H).1⟩) (fun _ _ _ _ _ _ _ _ _ => trivial)
    (fun _ _ _ _ ⟨v, L, h1, h2, h3⟩ => ⟨L, _, _, h3, rfl, rfl, v, h1, h2⟩)
    (fun m meth c A a g mk v t L k n Y hp _ _ ⟨e1, e2, v', e3, e4⟩ => by cases e3; subst e1 e2; exact ⟨L, e4, rfl, rfl, rfl⟩)
theorem Gl.callSE {G : State → Outcome → Prop} {vm0 : Vm} {k0 : Nat} (X : Stand p l e R (s.setVm vm0) m args below meth c T locs cells slots) (hx : p.tables.exec = Jvm.exec) (hZ : Z.Warmed39 (s.setVm vm0).vm) (hS : s.Since vm0 k0) (hk : k0 ≤ h.size) {vmS : Vm} {hh0 : Heap} (hEL : EW Z a0 EL) (hR : CHr Z EL vmS hh0 vm0 h) {own : String} {index : Nat} {y : MethodName} {bytes : ByteArray} {maxL : Nat} {rt : Option FieldType} (hown : (s.setVm vm0).vm.findClass own = some m.cls)
    (w1 : (Jvm.Cond.methodLink own index y).before a0 Z = true) (w2 : (Jvm.Cond.static y).before a0 Z = true) (w3 : (Jvm.Cond.initialized y.cls).before a0 Z = true) (w4 : (Jvm.Cond.code y bytes maxL rt).before a0 Z = true) (hy : y.cls ≠ "java/lang/invoke/MethodHandle" ∧ y.cls ≠ "java/lang/invoke/VarHandle")
    {rm : Room} {Q : Option Value → Heap → List Loc → Prop} {argsL rest : List Value} (hM : ConE l Z EL y bytes maxL rt [] rm rm.cells rm.slots argsL.toArray h Q) (W : Nat) (hf : rm.frames + 1 ≤ R.frames) (hl : W + (maxL + 11) + rm.locals ≤ R.locals) (hcl : cells + rm.cells ≤ R.cells) (hsl : slots + rm.slots ≤ R.slots) (eT : T.heap = h)
    {pc : Nat} {Ls : Array Slot} {st : List Value} (hsz : Ls.size = c.maxLocals) {ps : List FieldType} {r' : Option FieldType} (hds : parseMethodDescriptor y.desc = some ⟨ps, r'⟩) (hlen : argsL.length = ps.length) (hst : st = argsL.reverse ++ rest) (hW : 2 * 0 + (rest.map fun v => v.category).sum ≤ W) (hd : decode c.code pc = .ok (.invokestatic index, 3))
    (k : ∀ (v : Option Value) (T' : State) (L : List Loc), Stand p l e R (s.setVm T'.vm) m args below meth c T' (locs ++ L) (cells + rm.cells) (slots + rm.slots) → s.Since T'.vm T'.heap.size → Z.Warmed39 (s.setVm T'.vm).vm → (s.setVm T'.vm).vm.findClass own = some m.cls → Q v T'.heap L → Gl p e below G (T'.setTop (mkF m (pc + 3) Ls (v.toList ++ rest)))) : Gl p e below G (T.setTop (mkF m pc Ls st)) := by
  obtain ⟨v, _, ⟨T', L', k', n'⟩, -, X', hS', hg', ⟨Lc, hQ, l1, y1, z1⟩, stp⟩ := callSS X hx (y := y) hown (mvT hZ w1) (mvT hZ w2) (mvT hZ w3) (mvT hZ w4) hy (own_backE (W := W) hM hZ w4 w3 hf hl hEL hR.1) (g := mkF m pc Ls st) rfl hsz (argsL := argsL) (rest := rest) (lenOf hds hlen) hst hW hd (fun _ _ => ⟨rfl, eT, hcl, hsl⟩)
  dsimp only [Pt.U, Pt.locs, Pt.cells, Pt.slots] at X' l1 y1 z1 stp hQ hS' hg'
  subst l1 y1 z1
  rw [eT] at hg'
  obtain ⟨q1, q2, q3, q4⟩ := rebS hS hk X' hS' hg' hZ hown
  exact Gl.of (fun t q => stp.trans q) (k v T' Lc q1 q2 q3 q4 hQ)
theorem Gl.callIE {G : State → Outcome → Prop} {vm0 : Vm} {k0 : Nat} (X : Stand p l e R (s.setVm vm0) m args below meth c T locs cells slots) (hx : p.tables.exec = Jvm.exec) (hZ : Z.Warmed39 (s.setVm vm0).vm) (hS : s.Since vm0 k0) (hk : k0 ≤ h.size) {vmS : Vm} {hh0 : Heap} (hEL : EW Z a0 EL) (hR : CHr Z EL vmS hh0 vm0 h) {own : String} {index : Nat} {y : MethodName} {bytes : ByteArray} {maxL : Nat} (hy1 : y.name = "<init>") (hown : (s.setVm vm0).vm.findClass own = some m.cls)
    (w1 : (Jvm.Cond.methodLink own index y).before a0 Z = true) (w2 : (Jvm.Cond.instanceMethod y).before a0 Z = true) (w3 : (Jvm.Cond.initialized y.cls).before a0 Z = true) (w4 : (Jvm.Cond.code y bytes maxL none).before a0 Z = true) (hy : y.cls ≠ "java/lang/invoke/MethodHandle" ∧ y.cls ≠ "java/lang/invoke/VarHandle")
    {rm : Room} {Q : Option Value → Heap → List Loc → Prop} {b : Addr} {argsL rest : List Value} (hM : ConE l Z EL y bytes maxL none [] rm rm.cells rm.slots (Value.ref b :: argsL).toArray h Q) (W : Nat) (hf : rm.frames + 1 ≤ R.frames) (hl : W + (maxL + 11) + rm.locals ≤ R.locals) (hcl : cells + rm.cells ≤ R.cells) (hsl : slots + rm.slots ≤ R.slots) (eT : T.heap = h)
    {pc : Nat} {Ls : Array Slot} {st : List Value} (hsz : Ls.size = c.maxLocals) {ps : List FieldType} {r' : Option FieldType} (hds : parseMethodDescriptor y.desc = some ⟨ps, r'⟩) (hlen : argsL.length = ps.length) (hst : st = argsL.reverse ++ .ref b :: rest) (hW : 2 * 0 + (rest.map fun v => v.category).sum ≤ W) (hd : decode c.code pc = .ok (.invokespecial index, 3))
    (k : ∀ (v : Option Value) (T' : State) (L : List Loc), Stand p l e R (s.setVm T'.vm) m args below meth c T' (locs ++ L) (cells + rm.cells) (slots + rm.slots) → s.Since T'.vm T'.heap.size → Z.Warmed39 (s.setVm T'.vm).vm → (s.setVm T'.vm).vm.findClass own = some m.cls → Q v T'.heap L → Gl p e below G (T'.setTop (mkF m (pc + 3) Ls (v.toList ++ rest)))) : Gl p e below G (T.setTop (mkF m pc Ls st)) := by
  obtain ⟨v, _, ⟨T', L', k', n'⟩, -, X', hS', hg', ⟨Lc, hQ, l1, y1, z1⟩, stp⟩ := X.specialBackS hx (y := y) hy1 hown (mvT hZ w1) (mvT hZ w2) (mvT hZ w4) hy (own_backE (W := W) hM hZ w4 w3 hf hl hEL hR.1) (g := mkF m pc Ls st) rfl hsz (Steps.refl _) (a := b) (argsL := argsL) (rest := rest) (lenOf hds hlen) hst hW hd (fun _ _ => ⟨rfl, eT, hcl, hsl⟩)
  dsimp only [Pt.U, Pt.locs, Pt.cells, Pt.slots] at X' l1 y1 z1 stp hQ hS' hg'
  subst l1 y1 z1
  rw [eT] at hg'
  obtain ⟨q1, q2, q3, q4⟩ := rebS hS hk X' hS' hg' hZ hown
  exact Gl.of (fun t q => stp.trans q) (k v T' Lc q1 q2 q3 q4 hQ)
theorem Gl.callVE {G : State → Outcome → Prop} {vm0 : Vm} {k0 : Nat} (X : Stand p l e R (s.setVm vm0) m args below meth c T locs cells slots) (hx : p.tables.exec = Jvm.exec) (hZ : Z.Warmed39 (s.setVm vm0).vm) (hS : s.Since vm0 k0) (hk : k0 ≤ h.size) {vmS : Vm} {hh0 : Heap} (hEL : EW Z a0 EL) (hR : CHr Z EL vmS hh0 vm0 h) {own C : String} {index : Nat} {y z : MethodName} {bytes : ByteArray} {maxL : Nat} {rt : Option FieldType} (hown : (s.setVm vm0).vm.findClass own = some m.cls)
    (w1 : (Jvm.Cond.methodLink own index y).before a0 Z = true) (w2 : (Jvm.Cond.declares y).before a0 Z = true) (nf : NotFace (s.setVm vm0) y) (w5 : (Jvm.Cond.selects C y z).before a0 Z = true) (w6 : (Jvm.Cond.instanceMethod z).before a0 Z = true) (w4 : (Jvm.Cond.code z bytes maxL rt).before a0 Z = true) (w3 : (Jvm.Cond.initialized z.cls).before a0 Z = true) (hy : y.cls ≠ "java/lang/invoke/MethodHandle" ∧ y.cls ≠ "java/lang/invoke/VarHandle")
    {rm : Room} {Q : Option Value → Heap → List Loc → Prop} {b : Addr} {argsL rest : List Value} (hE : Exa Z h b C) (hM : ConE l Z EL z bytes maxL rt [] rm rm.cells rm.slots (Value.ref b :: argsL).toArray h Q) (W : Nat) (hf : rm.frames + 1 ≤ R.frames) (hl : W + (maxL + 11) + rm.locals ≤ R.locals) (hcl : cells + rm.cells ≤ R.cells) (hsl : slots + rm.slots ≤ R.slots) (eT : T.heap = h)
    {pc : Nat} {Ls : Array Slot} {st : List Value} (hsz : Ls.size = c.maxLocals) {ps : List FieldType} {r' : Option FieldType} (hds : parseMethodDescriptor y.desc = some ⟨ps, r'⟩) (hlen : argsL.length = ps.length) (hst : st = argsL.reverse ++ .ref b :: rest) (hW : 2 * 0 + (rest.map fun v => v.category).sum ≤ W) (hd : decode c.code pc = .ok (.invokevirtual index, 3))
    (k : ∀ (v : Option Value) (T' : State) (L : List Loc), Stand p l e R (s.setVm T'.vm) m args below meth c T' (locs ++ L) (cells + rm.cells) (slots + rm.slots) → s.Since T'.vm T'.heap.size → Z.Warmed39 (s.setVm T'.vm).vm → (s.setVm T'.vm).vm.findClass own = some m.cls → Q v T'.heap L → Gl p e below G (T'.setTop (mkF m (pc + 3) Ls (v.toList ++ rest)))) : Gl p e below G (T.setTop (mkF m pc Ls st)) := by
  obtain ⟨cq, kq, qa, qb, qc⟩ := isOf hZ eT hE
  obtain ⟨v, _, ⟨T', L', k', n'⟩, -, X', hS', hg', ⟨Lc, hQ, l1, y1, z1⟩, stp⟩ := X.virtualBackS hx (y := y) (z := z) hown (mvT hZ w1) (mvT hZ w2) nf (mvT hZ w5) (mvT hZ w6) hy (own_backE (W := W) hM hZ w4 w3 hf hl hEL hR.1) qa qc (g := mkF m pc Ls st) rfl hsz (Steps.refl _) (argsL := argsL) (rest := rest) (lenOf hds hlen) hst hW hd (fun _ _ => ⟨rfl, eT, hcl, hsl⟩)
  dsimp only [Pt.U, Pt.locs, Pt.cells, Pt.slots] at X' l1 y1 z1 stp hQ hS' hg'
  subst l1 y1 z1
  rw [eT] at hg'
  obtain ⟨q1, q2, q3, q4⟩ := rebS hS hk X' hS' hg' hZ hown
  exact Gl.of (fun t q => stp.trans q) (k v T' Lc q1 q2 q3 q4 hQ)
theorem Gl.callU0 {G : State → Outcome → Prop} (X : Stand p l e R s m args below meth c T locs cells slots) (hx : p.tables.exec = Jvm.exec) (hZ : Z.Warmed39 s.vm) {own C owner : String} {index : Nat} {y z : MethodName} {bytes : ByteArray} {maxL : Nat} {rt : Option FieldType} (hown : s.vm.findClass own = some m.cls)
    (w1 : (Jvm.Cond.methodLink own index y).before a0 Z = true) (w0 : (Jvm.Cond.sameMethod y.cls owner y.name y.desc).before a0 Z = true) (w2 : (Jvm.Cond.declares ⟨owner, y.name, y.desc⟩).before a0 Z = true) (w3 : (Jvm.Cond.selects C y z).before a0 Z = true) (w4 : (Jvm.Cond.instanceMethod z).before a0 Z = true) (w5 : (Jvm.Cond.code z bytes maxL rt).before a0 Z = true) (w6 : (Jvm.Cond.initialized z.cls).before a0 Z = true) (hy : owner ≠ "java/lang/invoke/MethodHandle" ∧ owner ≠ "java/lang/invoke/VarHandle")
    {fr lo : Nat} {F : Option Value → Prop} {b : Addr} {argsL rest : List Value} (hE : Exa Z h b C) (hM : Con l Z z bytes maxL rt [] ({ frames := fr, cells := 0, slots := 0, locals := lo } : Room) 0 0 (.ref b :: argsL).toArray h (Pur F h)) (W : Nat) (hf : fr + 1 ≤ R.frames) (hl : W + (maxL + 11) + lo ≤ R.locals) (eT : T.heap = h)
    {pc : Nat} {Ls : Array Slot} {st : List Value} (hsz : Ls.size = c.maxLocals) {ps : List FieldType} {r' : Option FieldType} (hds : parseMethodDescriptor y.desc = some ⟨ps, r'⟩) (hlen : argsL.length = ps.length) (hst : st = argsL.reverse ++ .ref b :: rest) (hW : 2 * 0 + (rest.map fun v => v.category).sum ≤ W) (hd : decode c.code pc = .ok (.invokevirtual index, 3)) (hcl : cells ≤ R.cells) (hsl : slots ≤ R.slots)
    (k : ∀ (v : Option Value) (T' : State), Stand p l e R s m args below meth c T' locs cells slots → T'.heap = h → F v → Gl p e below G (T'.setTop (mkF m (pc + 3) Ls (v.toList ++ rest)))) : Gl p e below G (T.setTop (mkF m pc Ls st)) := by
  obtain ⟨cq, kq, qa, qb, qc⟩ := isOf hZ eT hE
  obtain ⟨v, _, ⟨T', L', k', n'⟩, -, X', ⟨Lc, hQ, l1, y1, z1⟩, stp⟩ := X.virtualBackUp hx (x := y) (y := z) (owner := owner) hown (mvT hZ w1) (mvT hZ w0) (mvT hZ w2) hy (mvT hZ w3) (mvT hZ w4) (backOf (W := W) hM hZ w5 w6 hf hl) qa qc (g := mkF m pc Ls st) rfl hsz (Steps.refl _) (argsL := argsL) (rest := rest) (lenOf hds hlen) hst hW hd (fun _ _ => ⟨rfl, eT, hcl, hsl⟩)
  dsimp only [Pt.U, Pt.locs, Pt.cells, Pt.slots] at X' l1 y1 z1 stp hQ
  obtain ⟨q1, q2, rfl⟩ := hQ
  subst l1 y1 z1
  rw [List.append_nil] at X'
  exact Gl.of (fun t q => stp.trans q) (k v T' X' q2 q1)
end OwnH
section OwnCor
variable {p : Program} {l : Launch} {e : Env} {R : Room} {s : State} {m : MethodId} {args : Array Value} {below : List Frame} {meth : Method} {c : Code} {T : State} {locs : List Loc} {cells slots : Nat} {Z : State} {a0 : Array Value} {h : Heap}
theorem own_nat {n : Nat} (h : n < 2 ^ 31) : (Int32.ofNat n).toNatClampNeg = n := by
  simp only [Int32.toNatClampNeg, Int32.toInt_ofNat_of_lt h]; rfl
theorem own_neg {n : Nat} (h : n < 2 ^ 31) : ¬ Int32.ofNat n < 0 := by
  rw [Int32.lt_iff_toInt_lt, Int32.toInt_ofNat_of_lt h]; have : (0 : Int32).toInt = 0 := rfl; omega
def own_atoms : Jvm.Cond → List Jvm.Cond
  | .and a b => own_atoms a ++ own_atoms b
  | .tt => []
  | c => [c]
theorem own_atoms_ok {args : Array Value} {s : State} (c : Jvm.Cond) : (∀ d ∈ own_atoms c, d.before args s = true) → c.before args s = true := by
  fun_induction own_atoms c with
  | case1 a b h1 h2 => intro h; rw [Cond.before_and, h1 fun d hd => h d (List.mem_append_left _ hd), h2 fun d hd => h d (List.mem_append_right _ hd)]; rfl
  | case2 => intro h; rfl
  | case3 c _ _ => intro h; exact h c (List.mem_singleton.mpr rfl)
theorem own_tab {tb : Jvm.Cond} (hZ : Z.Warmed39 s.vm) (hw : ∀ d ∈ own_atoms tb, d.before a0 Z = true) (ok : (own_atoms tb).all (fun d => (d.onTables && d.keepsFace) || decide (d = .arrayClass .byte)) = true) : tb.before args s = true := own_atoms_ok _ fun d hd => by
  have q := List.all_eq_true.mp ok d hd
  rw [Bool.or_eq_true] at q
  rcases q with q | q
  · exact RoadKit.mv hZ (hw d hd) q
  · have q' := of_decide_eq_true q
    subst q'
    exact mvA hZ (hw _ hd)
theorem own_fbn {a : Addr} {cA kB : ClassId} {ty : FieldType} {n : Int32} (A : Arr Z h a (newA cA ty n) ty) (E : Exa Z h a "[B") (hfb : Z.vm.findClass "[B" = some kB) : cA = kB := by
  obtain ⟨cell, k, h1, h2, -⟩ := E
  cases A.1.symm.trans h1
  exact Option.some.inj (h2.symm.trans hfb)
theorem own_list {A : Cell} {vs : List Value} {d : Value} (H : Has A vs d) (hl : vs.length = A.slots.size) : A.slots.toList = vs := by
  refine List.ext_getElem? fun i => ?_
  by_cases q : i < A.slots.size
  · have e := H i q
    rw [Array.getElem?_toList, e]
    simp [List.getD, List.getElem?_eq_getElem (show i < vs.length by omega)]
  · rw [List.getElem?_eq_none (by simpa using Nat.le_of_not_lt q), List.getElem?_eq_none (by omega)]
theorem own_fits {v : Value} (q : fits .byte v = true) : ∃ w, v = .int w := by
  cases v <;> first | exact ⟨_, rfl⟩ | (simp [fits] at q)
/-- Arrays.copyOfRange of a known byte[] -/
theorem Gl.callCor {G : State → Outcome → Prop} (X : Stand p l e R s m args below meth c T locs cells slots) (hx : p.tables.exec = Jvm.exec) (hZ : Z.Warmed39 s.vm) {own : String} {index : Nat} {bytes : ByteArray} (hown : s.vm.findClass own = some m.cls)
    (w1 : (Jvm.Cond.methodLink own index (⟨"java/util/Arrays", "copyOfRange", "([BII)[B"⟩ : MethodName)).before a0 Z = true) (w2 : (Jvm.Cond.static (⟨"java/util/Arrays", "copyOfRange", "([BII)[B"⟩ : MethodName)).before a0 Z = true) (w3 : (Jvm.Cond.initialized "java/util/Arrays").before a0 Z = true) (w4 : (Jvm.Cond.code (⟨"java/util/Arrays", "copyOfRange", "([BII)[B"⟩ : MethodName) bytes 3 (some (.array .byte))).before a0 Z = true) (wt : ∀ d ∈ own_atoms Jvm.Free.Str.COR.tabW, d.before a0 Z = true)
    {b : Addr} {kb : ClassId} {z : Int32} {vs : List Value} (V : Arv Z h b kb .byte z vs (.int 0)) (hfb : Z.vm.findClass "[B" = some kb) {fr to cap : Nat} (hl : vs.length = z.toNatClampNeg) (h1 : fr ≤ to) (h2 : to ≤ z.toNatClampNeg) (h3 : ¬ (fr = 0 ∧ to = z.toNatClampNeg)) (h4 : z.toNatClampNeg ≤ cap) (h5 : cap ≤ 536870912) {vs' : List Value} (hvs : (vs.drop fr).take (to - fr) = vs') {n : Nat} (hn : to - fr = n) (hn' : n < 2 ^ 31)
    {W : Nat} {rest : List Value} (hf : 3 + 1 ≤ R.frames) (hlo : W + (3 + 11) + 80 ≤ R.locals) (hcl : cells + 1 ≤ R.cells) (hsl : slots + cap ≤ R.slots) (eT : T.heap = h)
    {pc : Nat} {Ls : Array Slot} {st : List Value} {z1 z2 : Int32} (hz1 : z1 = Int32.ofNat fr) (hz2 : z2 = Int32.ofNat to) (hsz : Ls.size = c.maxLocals) (hst : st = .int z2 :: .int z1 :: .ref b :: rest) (hW : 2 * 0 + (rest.map fun v => v.category).sum ≤ W) (hd : decode c.code pc = .ok (.invokestatic index, 3))
    (k : ∀ (r : Addr) (T' : State), Stand p l e R s m args below meth c T' locs (cells + 1) (slots + n) → Ext h T'.heap → h.size ≤ r → Arv Z T'.heap r kb .byte (Int32.ofNat n) vs' (.int 0) → Gl p e below G (T'.setTop (mkF m (pc + 3) Ls (.ref r :: rest)))) : Gl p e below G (T.setTop (mkF m pc Ls st)) := by
  subst hz1 hz2 eT hn hvs
  obtain ⟨arr, ⟨A1, A2, A3⟩, A4, A5, A6, A7, A8⟩ := V
  have hlen : vs.length = arr.slots.size := by rw [hl, A5]
  have eL := own_list A7 hlen
  have hby : ∀ i, i < arr.slots.size → ∃ w, arr.slots[i]? = some (.int w) := fun i hi => by
    obtain ⟨w, hw⟩ := own_fits (A8 i hi)
    exact ⟨w, by rw [A7 i hi, hw]⟩
  have hs31 : arr.slots.size < 2 ^ 31 := by rw [A5]; exact Nat.lt_of_le_of_lt h4 (by omega)
  have tb := own_tab (args := args) hZ wt (by decide +kernel)
  obtain ⟨v, vm1, ⟨T', L', k', n'⟩, hwm, X', ⟨l1, y1, q1, hk, r, A', rfl, B1, B2, B3, B4, B5⟩, stp⟩ := Jvm.LawKit.callS X hx (y := (⟨"java/util/Arrays", "copyOfRange", "([BII)[B"⟩ : MethodName)) hown (mvT hZ w1) (mvT hZ w2) (mvT hZ w3) (mvT hZ w4) (desc_ne (by decide)) (Jvm.Free.Str.COR.pays (l := l) (R := R) (p := p) (e := e) (below := below) (s := s) (sargs := args) (len := 3) (W := W) cap b arr fr to tb hf hlo) (g := mkF m pc Ls st) rfl hsz (argsL := [.ref b, .int (Int32.ofNat fr), .int (Int32.ofNat to)]) (rest := rest) (lenOf (ps := [.array .byte, .int, .int]) (r := some (.array .byte)) (d := "([BII)[B") (by decide +kernel) rfl) hst hW hd (fun vm₁ hwm => ⟨hcl, hsl, rfl, ⟨A1, State.isArrayOf_alike (hZ.alike.trans hwm.alike) A2, A3, hs31, fun i hi => by
      obtain ⟨w, hw⟩ := hby i hi
      rw [hw]; simp only [Jvm.Lib.StringLatin1.equals.intAt, hw]⟩, h1, by rw [A5]; exact h2, by rw [A5]; exact h3, by rw [A5]; exact h4, h5, fun i hi => by
      rw [Array.getD_eq_getD_getElem?, A7 i hi]; exact A8 i hi, by rw [A4]; show vm₁.findClass "[B" = _; rw [hwm.alike.findClass, hZ.alike.findClass]; exact hfb⟩)
  dsimp only [Pt.U, Pt.locs, Pt.cells, Pt.slots] at X' l1 y1 q1 stp hk B1 B5
  subst l1 y1 q1
  obtain ⟨b1, b2, b3, b4, b5⟩ := B1
  have eA : A'.slots.toList = (vs.drop fr).take (to - fr) := by rw [B2, eL]
  have eS : A'.slots.size = to - fr := by
    rw [← Array.length_toList, eA, List.length_take, List.length_drop]
    omega
  have eG : ∀ i, i < to - fr → ((vs.drop fr).take (to - fr)).getD i (.int 0) = vs.getD (fr + i) (.int 0) := fun i hi => by
    simp [List.getD, List.getElem?_take, hi, List.getElem?_drop]
  refine Gl.of stp (k r T' X' ⟨?_, hk⟩ B5 ⟨A', ⟨b1, State.isArrayOf_alike (hZ.alike.trans X'.warmed.alike).symm b2, b3⟩, by rw [B3, A4], ?_, ?_, ?_, ?_⟩)
  · by_cases q : T.heap.size ≤ T'.heap.size
    · exact q
    · have hpos : T.heap.size - 1 < T.heap.size := by omega
      have := hk _ _ (Array.getElem?_eq_getElem hpos)
      have := (Array.getElem?_eq_some_iff.mp this).1
      omega
  · rw [eS]; exact (own_nat hn').symm
  · exact own_neg hn'
  · intro i hi
    rw [← Array.getElem?_toList, eA]
    have hi' : i < ((vs.drop fr).take (to - fr)).length := by rw [← eA]; simpa using hi
    rw [List.getElem?_eq_getElem hi']
    simp [List.getD, List.getElem?_eq_getElem hi']
  · intro i hi
    rw [eS] at hi
    rw [eG i hi]
    exact A8 _ (by omega)
end OwnCor
theorem w88 {Z : State} {a0 : Array Value} (hw : ∀ d ∈ tables_1, d.before a0 Z = true) : (Jvm.Cond.stringLink "com/example/rulr/rulr/policy/SqlCondition$Membership" (62 : Nat) " WHERE ").before a0 Z = true := hw _ (List.mem_of_getElem? (i := 88) rfl)
def own_QB (Z : State) (x : Addr) (N : Int32) (bs : List Int32) (h : Heap) (n0 : Nat) (v : Option Value) (h' : Heap) (L : List Loc) : Prop := v = none ∧ Fr n0 L ∧ Keep h h' [x] ∧ Exa Z h' x "java/lang/String" ∧ Fld Z h' x "java/lang/String" "coder" "B" (.int 0) ∧
  ∃ (t : Addr) (kb : ClassId), n0 ≤ t ∧ h.size ≤ t ∧ ¬ t = x ∧ Fld Z h' x "java/lang/String" "value" "[B" (.ref t) ∧ Z.vm.findClass "[B" = some kb ∧ Arv Z h' t kb .byte N (bs.map Value.int) (.int 0)
theorem own_n32 {n : Nat} (h : n < 2 ^ 31) : (Int32.ofNat n).toNatClampNeg = n := own_nat h
theorem own_backB {p : Program} {l : Launch} {e : Env} {R : Room} {s : State} {args : Array Value} {below : List Frame} {len W : Nat} {Z : State} {a0 : Array Value} {h : Heap} (hZ : Z.Warmed39 s.vm) (hw : ∀ d ∈ StrChars.Road.words, d.before a0 Z = true) {kI : Nat} (wi : (Jvm.Cond.instantiable "java/lang/String" kI).before a0 Z = true)
    {x b : Addr} {kC : ClassId} {cs bs : List Int32} {d v0 c0 : Value} {z N : Int32} {n n0 : Nat} (hx0 : n0 ≤ x) (hh0 : n0 ≤ h.size) (E : Exa Z h x "java/lang/String") (V : Fld Z h x "java/lang/String" "value" "[B" v0) (C : Fld Z h x "java/lang/String" "coder" "B" c0) (K : Arv Z h b kC .char N (cs.map Value.int) d) (S : Sta Z h "java/lang/String" "COMPACT_STRINGS" "Z" (.int z)) (hz : ¬ z = 0)
    (hn : cs.length = n) (hN : N = Int32.ofNat n) (l0 : 0 < n) (l2 : n ≤ 4000) (hp : ∀ c ∈ cs, ¬ c < 0 ∧ ¬ (255 : Int32) < c) (hb : bs = cs.map (fun c => c.toInt8.toInt32)) (hfr : 4 ≤ R.frames) (hlo : W + 65 ≤ R.locals) :
    Back l R p e below s args (⟨"java/lang/String", "<init>", "([C)V"⟩ : MethodName) len W (fun P a => a = #[.ref x, .ref b] ∧ P.U.heap = h ∧ P.cells + 1 ≤ R.cells ∧ P.slots + n ≤ R.slots)
      (fun P _ v B => ∃ L, own_QB Z x N bs h n0 v B.U.heap L ∧ B.locs = P.locs ++ L ∧ B.cells = P.cells + 1 ∧ B.slots = P.slots + n) := by
  subst hn hN hb
  refine Back.mono (StrChars.Road.backArv hZ hw wi E V C K S hz (own_n32 (by omega)) l0 (by omega) (fun c hc => (hp c hc).2) hfr hlo) (fun P a hp => hp) (fun P a v B hp hq => ?_)
  obtain ⟨L, ⟨q1, q2, q3, q4, q5, q6, q7, ⟨kb, v1, v2⟩, q9⟩, hl, hc, hs⟩ := hq
  exact ⟨L, ⟨q1, fun y hy => by rw [q2 y hy]; exact hx0, q3, q5, q7, h.size, kb, hh0, Nat.le_refl _, Nat.ne_of_gt E.lt, q6, v1, by rw [List.map_map]; exact v2⟩, hl, hc, hs⟩
def own_wh : List Int32 := [32, 87, 72, 69, 82, 69, 32]
def own_EL : List (String × Nat) := consts_1
theorem own_el {Z : State} {a0 : Array Value} (hw : ∀ d ∈ tables_1, d.before a0 Z = true) : EW Z a0 own_EL := EW.cons (w88 hw) (by decide) EW.nil
theorem own_cor {Z : State} {a0 : Array Value} (hw : ∀ d ∈ tables_1, d.before a0 Z = true) : ∀ d ∈ own_atoms Jvm.Free.Str.COR.tabW, d.before a0 Z = true := fun d hd => hw d ((by decide +kernel : ∀ d ∈ own_atoms Jvm.Free.Str.COR.tabW, d ∈ tables_1) d hd)
theorem own_u16 (u : UInt16) : (u.toUInt32.toInt32).toInt = u.toNat := by
  have hu := u.toNat_lt
  have e : u.toUInt32.toInt32.toInt = (u.toUInt32.toBitVec).toInt := rfl
  have e2 : u.toUInt32.toBitVec.toNat = u.toNat := UInt16.toNat_toUInt32 u
  rw [e, BitVec.toInt_eq_toNat_of_lt (by rw [e2]; omega), e2]
theorem own_i2c {x : Int32} (h0 : 0 ≤ x.toInt) (h1 : x.toInt ≤ 65535) : x.toUInt32.toUInt16.toUInt32.toInt32 = x := by
  apply Int32.toInt_inj.mp
  rw [own_u16, UInt32.toNat_toUInt16]
  have e : x.toInt = x.toBitVec.toInt := rfl
  have e2 : x.toUInt32.toNat = x.toBitVec.toNat := rfl
  rw [BitVec.toInt_eq_toNat_cond] at e
  have e3 := x.toBitVec.isLt
  rw [e2]
  split at e <;> omega
theorem own_nc {c : Int32} (h : ¬ c < 0 ∧ ¬ (255 : Int32) < c) : nar .char c = c := by
  have e0 : (0 : Int32).toInt = 0 := rfl
  have e1 : (255 : Int32).toInt = 255 := rfl
  simp only [Int32.lt_iff_toInt_lt] at h
  exact own_i2c (by omega) (by omega)
theorem own_nr {c : Int32} (h : ¬ c < 0 ∧ ¬ (255 : Int32) < c) : ¬ nar .char c < 0 ∧ ¬ (255 : Int32) < nar .char c := by rw [own_nc h]; exact h
theorem own_ch (y : Int64) : ¬ nar .char ((y &&& (255 : Int64)).toInt32.toUInt32.toUInt16.toUInt32.toInt32) < 0 ∧ ¬ (255 : Int32) < nar .char ((y &&& (255 : Int64)).toInt32.toUInt32.toUInt16.toUInt32.toInt32) := by
  have h : (y &&& (255 : Int64)).toInt = y.toInt % 2 ^ 8 := Jvm.Kit.i64_mask y 255 (k := 8) (by decide) (by decide)
  have h2 : (y &&& (255 : Int64)).toInt32.toInt = (y &&& (255 : Int64)).toInt := by
    rw [Int64.toInt_toInt32]
    exact Int.bmod_eq_of_le (by omega) (by omega)
  have e0 : (0 : Int32).toInt = 0 := rfl
  have e1 : (255 : Int32).toInt = 255 := rfl
  have q : ¬ (y &&& (255 : Int64)).toInt32 < 0 ∧ ¬ (255 : Int32) < (y &&& (255 : Int64)).toInt32 := by
    simp only [Int32.lt_iff_toInt_lt, h2, h]
    omega
  rw [own_i2c (by omega) (by omega)]
  exact own_nr q
theorem own_q4 (x : Int32) : x &&& (3 : Int32) = 0 ∨ x &&& (3 : Int32) = 1 ∨ x &&& (3 : Int32) = 2 ∨ x &&& (3 : Int32) = 3 := by
  have h : (x &&& (3 : Int32)).toInt = x.toInt % 2 ^ 2 := Jvm.Kit.i32_mask x 3 (k := 2) (by decide) (by decide)
  have e : ∀ n : Int32, (x &&& (3 : Int32)).toInt = n.toInt → x &&& (3 : Int32) = n := fun n q => Int32.toInt_inj.mp q
  have e0 : (0 : Int32).toInt = 0 := rfl
  have e1 : (1 : Int32).toInt = 1 := rfl
  have e2 : (2 : Int32).toInt = 2 := rfl
  have e3 : (3 : Int32).toInt = 3 := rfl
  have : (x &&& (3 : Int32)).toInt = 0 ∨ (x &&& (3 : Int32)).toInt = 1 ∨ (x &&& (3 : Int32)).toInt = 2 ∨ (x &&& (3 : Int32)).toInt = 3 := by omega
  rcases this with q | q | q | q
  · exact Or.inl (e _ (q.trans e0.symm))
  · exact Or.inr (Or.inl (e _ (q.trans e1.symm)))
  · exact Or.inr (Or.inr (Or.inl (e _ (q.trans e2.symm))))
  · exact Or.inr (Or.inr (Or.inr (e _ (q.trans e3.symm))))
theorem ef_1 (m : MethodId) (x0 : Int64) (x1 : Int32) : entryFrame m #[(.long x0), (.int x1)] 3 = mkF m 0 #[.val (.long x0), .second, .val (.int x1)] [] := by first | (simp [entryFrame, mkF, argsToLocals, Value.category, maxLocals]; done) | rfl
theorem pn_0 : plainName "com/example/rulr/rulr/policy/MembershipConditionPinLaw" = true := by first | (simp [plainName, overriddenIn]; done) | decide +kernel
theorem d1_0 : decode method_2_code 0 = .ok (.lload_n 0, 1) := by decide +kernel
theorem d1_1 : decode method_2_code 1 = .ok (.iload_n 2, 1) := by decide +kernel
theorem d1_2 : decode method_2_code 2 = .ok (.lushr, 1) := by decide +kernel
theorem d1_3 : decode method_2_code 3 = .ok (.ldc2_w 7, 3) := by decide +kernel
theorem w5 {Z : State} {a0 : Array Value} (hw : ∀ d ∈ tables_1, d.before a0 Z = true) : (Jvm.Cond.constantLong "com/example/rulr/rulr/policy/MembershipConditionPinLaw" (7 : Nat) (255 : Int64)).before a0 Z = true := hw _ (List.mem_of_getElem? (i := 5) rfl)
theorem d1_6 : decode method_2_code 6 = .ok (.land, 1) := by decide +kernel
theorem d1_7 : decode method_2_code 7 = .ok (.l2i, 1) := by decide +kernel
theorem d1_8 : decode method_2_code 8 = .ok (.i2c, 1) := by decide +kernel
theorem d1_9 : decode method_2_code 9 = .ok (.ireturn, 1) := by decide +kernel
theorem rmH (l : Launch) (Z : State) (a0 : Array Value) (hw : ∀ d ∈ tables_1, d.before a0 Z = true) (h0 : Heap) (p1 : Int64) (p2 : Int32) : Con l Z (⟨"com/example/rulr/rulr/policy/MembershipConditionPinLaw", "ch", "(JI)C"⟩ : MethodName) method_2_code 3 (some .char) [] ({ frames := 0, cells := 0, slots := 0, locals := 0 } : Room) 0 0 #[(.long p1), (.int p2)] h0 (Pur (fun v => ∃ c, v = some (.int c) ∧ (¬ c < 0 ∧ ¬ (255 : Int32) < c)) h0) := by
  refine Con.intro (plainFor_of_name pn_0) ?_
  intro p e s m below meth c s₁ X0 hx hby hml hZ hown hnm hret hlk e0 hs0
  refine Gl.of (fun _ kq_ => castTop (ef_1 m p1 p2) kq_) ?_
  show Gl p e below _ (s₁.setTop (mkF m 0 #[.val (.long p1), .second, .val (.int p2)] []))
  refine Gl.of (fun _ kq_ => XS.lloadN X0.here hx rfl (hb hby d1_0) rfl kq_) ?_
  refine Gl.of (fun _ kq_ => XS.iloadN X0.here hx rfl (hb hby d1_1) rfl kq_) ?_
  refine Gl.of (fun _ kq_ => XS.lushr X0.here hx rfl (hb hby d1_2) rfl kq_) ?_
  refine Gl.of (fun _ kq_ => X0.ldc2Long hx hown (mvT hZ (w5 hw)) (g := (mkF m 3 #[.val (.long p1), .second, .val (.int p2)] [(.long ((p1.toUInt64 >>> (p2 &&& 0x3f).toInt64.toUInt64).toInt64))])) rfl (hb hby d1_3) _ kq_) ?_
  refine Gl.of (fun _ kq_ => XS.land X0.here hx rfl (hb hby d1_6) rfl kq_) ?_
  refine Gl.of (fun _ kq_ => XS.l2i X0.here hx rfl (hb hby d1_7) rfl kq_) ?_
  show Gl p e below _ (s₁.setTop (mkF m 8 #[.val (.long p1), .second, .val (.int p2)] [(.int ((((p1.toUInt64 >>> (p2 &&& 0x3f).toInt64.toUInt64).toInt64) &&& (255 : Int64)).toInt32))]))
  refine Gl.of (fun _ kq_ => XS.i2c X0.here hx rfl (hb hby d1_8) rfl kq_) ?_
  exact Gl.retN X0 hx hlk hret (by simp) (hb hby d1_9) e0 (⟨⟨_, rfl, own_ch _⟩, rfl, rfl⟩) (by decide) (by decide)
theorem ef_2 (m : MethodId) (x0 : Int32) : entryFrame m #[(.int x0)] 1 = mkF m 0 #[.val (.int x0)] [] := by first | (simp [entryFrame, mkF, argsToLocals, Value.category, maxLocals]; done) | rfl
theorem pn_1 : plainName "java/lang/StringLatin1" = true := by first | (simp [plainName, overriddenIn]; done) | decide +kernel
theorem d9_0 : decode jdk_43_method_3_code 0 = .ok (.iload_n 0, 1) := by decide +kernel
theorem d9_1 : decode jdk_43_method_3_code 1 = .ok (.sipush 255, 3) := by decide +kernel
theorem d9_4 : decode jdk_43_method_3_code 4 = .ok (.if_icmp .gt 7, 3) := by decide +kernel
theorem d9_7 : decode jdk_43_method_3_code 7 = .ok (.iconst 1, 1) := by decide +kernel
theorem d9_8 : decode jdk_43_method_3_code 8 = .ok (.goto 4, 3) := by decide +kernel
theorem d9_12 : decode jdk_43_method_3_code 12 = .ok (.ireturn, 1) := by decide +kernel
theorem rmE (l : Launch) (Z : State) (a0 : Array Value) (hw : ∀ d ∈ tables_1, d.before a0 Z = true) (h0 : Heap) (p1 : Int32) (hc : (¬ p1 < 0 ∧ ¬ (255 : Int32) < p1)) : Con l Z (⟨"java/lang/StringLatin1", "canEncode", "(C)Z"⟩ : MethodName) jdk_43_method_3_code 1 (some .boolean) [] ({ frames := 0, cells := 0, slots := 0, locals := 0 } : Room) 0 0 #[(.int p1)] h0 (Pur (fun v => v = some (.int 1)) h0) := by
  refine Con.intro (plainFor_of_name pn_1) ?_
  intro p e s m below meth c s₁ X0 hx hby hml hZ hown hnm hret hlk e0 hs0
  refine Gl.of (fun _ kq_ => castTop (ef_2 m p1) kq_) ?_
  show Gl p e below _ (s₁.setTop (mkF m 0 #[.val (.int p1)] []))
  refine Gl.of (fun _ kq_ => XS.iloadN X0.here hx rfl (hb hby d9_0) rfl kq_) ?_
  refine Gl.of (fun _ kq_ => XS.sipush X0.here hx rfl (hb hby d9_1) kq_) ?_
  refine Gl.of (fun _ kq_ => XS.icmpNo X0.here hx rfl (hb hby d9_4) rfl (flt hc.2).2.2.1 kq_) ?_
  refine Gl.of (fun _ kq_ => XS.iconst X0.here hx rfl (hb hby d9_7) kq_) ?_
  refine Gl.of (fun _ kq_ => XS.goto X0.here hx rfl (pc0 := 8) (pc' := 12) rfl (hb hby d9_8) (by decide) (by decide) kq_) ?_
  exact Gl.retN X0 hx hlk hret (by simp) (hb hby d9_12) e0 (⟨rfl, rfl, rfl⟩) (by decide) (by decide)
theorem ef_3 (m : MethodId) (x0 : Int32) : entryFrame m #[(.int x0)] 1 = mkF m 0 #[.val (.int x0)] [] := by first | (simp [entryFrame, mkF, argsToLocals, Value.category, maxLocals]; done) | rfl
theorem d10_0 : decode jdk_43_method_46_code 0 = .ok (.iconst 1, 1) := by decide +kernel
theorem d10_1 : decode jdk_43_method_46_code 1 = .ok (.newarray .byte, 2) := by decide +kernel
theorem w24 {Z : State} {a0 : Array Value} (hw : ∀ d ∈ tables_1, d.before a0 Z = true) : (Jvm.Cond.arrayClass Jvm.ClassFile.FieldType.byte).before a0 Z = true := hw _ (List.mem_of_getElem? (i := 24) rfl)
theorem d10_3 : decode jdk_43_method_46_code 3 = .ok (.dup, 1) := by decide +kernel
theorem d10_4 : decode jdk_43_method_46_code 4 = .ok (.iconst 0, 1) := by decide +kernel
theorem d10_5 : decode jdk_43_method_46_code 5 = .ok (.iload_n 0, 1) := by decide +kernel
theorem d10_6 : decode jdk_43_method_46_code 6 = .ok (.i2b, 1) := by decide +kernel
theorem d10_7 : decode jdk_43_method_46_code 7 = .ok (.bastore, 1) := by decide +kernel
theorem d10_8 : decode jdk_43_method_46_code 8 = .ok (.areturn, 1) := by decide +kernel
theorem rmT (l : Launch) (Z : State) (a0 : Array Value) (hw : ∀ d ∈ tables_1, d.before a0 Z = true) (h0 : Heap) (p1 : Int32) (n0 : Nat) (O0 : Old Z n0 h0) : Con l Z (⟨"java/lang/StringLatin1", "toBytes", "(C)[B"⟩ : MethodName) jdk_43_method_46_code 1 (some (.array .byte)) [] ({ frames := 0, cells := 1, slots := 1, locals := 0 } : Room) 1 1 #[(.int p1)] h0 (fun v h L => ∃ r, v = some (.ref r) ∧ Keep h0 h [] ∧ Fr n0 L) := by
  refine Con.intro (plainFor_of_name pn_1) ?_
  intro p e s m below meth c s₁ X0 hx hby hml hZ hown hnm hret hlk e0 hs0
  refine Gl.of (fun _ kq_ => castTop (ef_3 m p1) kq_) ?_
  have K0 := Keep.refl h0 []
  show Gl p e below _ (s₁.setTop (mkF m 0 #[.val (.int p1)] []))
  refine Gl.of (fun _ kq_ => XS.iconst X0.here hx rfl (hb hby d10_0) kq_) ?_
  obtain ⟨T1, h1, k1, X1, e1, E1, A1, st1⟩ := newP (aty := .byte) X0 hx hZ (w24 hw) e0 (g := (mkF m 1 #[.val (.int p1)] [(.int (1 : Int32))])) rfl (hb hby d10_1) rfl (by decide) (cap := 1) (by decide) (by decide) (by decide) (by decide)
  obtain ⟨b1, g1⟩ : ∃ z, z = h0.size := ⟨_, rfl⟩
  rw [← g1] at A1 st1
  refine Gl.of st1 ?_
  have Gb1 : n0 ≤ b1 := Nat.le_trans (O0.1 ▸ O0.2.1) (Nat.le_of_eq g1.symm)
  have Jb1 : h0.size ≤ b1 := Nat.le_trans K0.1 (Nat.le_of_eq g1.symm)
  have O1 := O0.ext E1
  have K1 := K0.ext E1
  have V1 : Arv Z h1 b1 k1 .byte (1 : Int32) [(.int (0 : Int32))] (.int (0 : Int32)) := (Arv.new A1 (by decide)).pad (pad_rep [] (.int (0 : Int32)) 1)
  show Gl p e below _ (T1.setTop (mkF m 3 #[.val (.int p1)] [(.ref b1)]))
  refine Gl.of (fun _ kq_ => XS.dup X1.here hx rfl (hb hby d10_3) rfl rfl kq_) ?_
  refine Gl.of (fun _ kq_ => XS.iconst X1.here hx rfl (hb hby d10_4) kq_) ?_
  refine Gl.of (fun _ kq_ => XS.iloadN X1.here hx rfl (hb hby d10_5) rfl kq_) ?_
  refine Gl.of (fun _ kq_ => XS.i2b X1.here hx rfl (hb hby d10_6) rfl kq_) ?_
  obtain ⟨zcl2, zAr2, zq2, zS2, zM2, zH2, zG2⟩ := id V1
  obtain ⟨T3, h3, X3, e3, W3, st3⟩ := stB X1 hx hZ e1 zAr2 (j := (0 : Int32)) (inb_of zS2 ⟨by decide, by decide⟩) (g := (mkF m 7 #[.val (.int p1)] [(.int (p1.toInt8.toInt32)), (.int (0 : Int32)), (.ref b1), (.ref b1)])) rfl rfl (hb hby d10_7)
  refine Gl.of st3 ?_
  have V3 : Arv Z h3 b1 k1 .byte (1 : Int32) [(.int (nar .byte (p1.toInt8.toInt32)))] (.int (0 : Int32)) := Arv.set zAr2 zq2 zS2 zM2 zH2 zG2 (fits_nar_byte _) W3 0 rfl (Nat.le_of_ble_eq_true rfl)
  have N3 := Fr.snoc X3 (Fr.nil n0) Gb1
  have O3 := O1.wr W3 Gb1
  have K3 := K1.wr W3 (Or.inr Jb1)
  show Gl p e below _ (T3.setTop (mkF m 8 #[.val (.int p1)] [(.ref b1)]))
  exact Gl.retR X3 hx hlk hret rfl rfl (hb hby d10_8) e3 (⟨_, rfl, K3, N3⟩) (by decide) (by decide)
theorem ef_4 (m : MethodId) (x0 : Addr) (x1 : Addr) (x2 : Int32) : entryFrame m #[(.ref x0), (.ref x1), (.int x2)] 3 = mkF m 0 #[.val (.ref x0), .val (.ref x1), .val (.int x2)] [] := by first | (simp [entryFrame, mkF, argsToLocals, Value.category, maxLocals]; done) | rfl
theorem pn_2 : plainName "java/lang/String" = true := by first | (simp [plainName, overriddenIn]; done) | decide +kernel
theorem d11_0 : decode jdk_42_method_151_code 0 = .ok (.aload_n 0, 1) := by decide +kernel
theorem d11_1 : decode jdk_42_method_151_code 1 = .ok (.invokespecial 1, 3) := by decide +kernel
theorem w16 {Z : State} {a0 : Array Value} (hw : ∀ d ∈ tables_1, d.before a0 Z = true) : (Jvm.Cond.methodLink "java/lang/String" (1 : Nat) ({ cls := "java/lang/Object", name := "<init>", desc := "()V" } : Jvm.MethodName)).before a0 Z = true := hw _ (List.mem_of_getElem? (i := 16) rfl)
theorem w17 {Z : State} {a0 : Array Value} (hw : ∀ d ∈ tables_1, d.before a0 Z = true) : (Jvm.Cond.instanceMethod ({ cls := "java/lang/Object", name := "<init>", desc := "()V" } : Jvm.MethodName)).before a0 Z = true := hw _ (List.mem_of_getElem? (i := 17) rfl)
theorem w18 {Z : State} {a0 : Array Value} (hw : ∀ d ∈ tables_1, d.before a0 Z = true) : (Jvm.Cond.code ({ cls := "java/lang/Object", name := "<init>", desc := "()V" } : Jvm.MethodName) object_method_1_code (1 : Nat) (Option.none : Option Jvm.ClassFile.FieldType)).before a0 Z = true := hw _ (List.mem_of_getElem? (i := 18) rfl)
theorem d11_4 : decode jdk_42_method_151_code 4 = .ok (.aload_n 0, 1) := by decide +kernel
theorem d11_5 : decode jdk_42_method_151_code 5 = .ok (.aload_n 1, 1) := by decide +kernel
theorem d11_6 : decode jdk_42_method_151_code 6 = .ok (.putfield 9, 3) := by decide +kernel
theorem w33 {Z : State} {a0 : Array Value} (hw : ∀ d ∈ tables_1, d.before a0 Z = true) : (Jvm.Cond.fieldLink "java/lang/String" (9 : Nat) "java/lang/String" "value" "[B").before a0 Z = true := hw _ (List.mem_of_getElem? (i := 33) rfl)
theorem w34 {Z : State} {a0 : Array Value} (hw : ∀ d ∈ tables_1, d.before a0 Z = true) : (Jvm.Cond.laysFinal "java/lang/String" "java/lang/String" "value" "[B").before a0 Z = true := hw _ (List.mem_of_getElem? (i := 34) rfl)
theorem w7 {Z : State} {a0 : Array Value} (hw : ∀ d ∈ tables_1, d.before a0 Z = true) : (Jvm.Cond.instantiable "java/lang/String" (4 : Nat)).before a0 Z = true := hw _ (List.mem_of_getElem? (i := 7) rfl)
theorem w32 {Z : State} {a0 : Array Value} (hw : ∀ d ∈ tables_1, d.before a0 Z = true) : (Jvm.Cond.laysFinal "java/lang/String" "java/lang/String" "coder" "B").before a0 Z = true := hw _ (List.mem_of_getElem? (i := 32) rfl)
theorem d11_9 : decode jdk_42_method_151_code 9 = .ok (.aload_n 0, 1) := by decide +kernel
theorem d11_10 : decode jdk_42_method_151_code 10 = .ok (.iload_n 2, 1) := by decide +kernel
theorem d11_11 : decode jdk_42_method_151_code 11 = .ok (.putfield 15, 3) := by decide +kernel
theorem w31 {Z : State} {a0 : Array Value} (hw : ∀ d ∈ tables_1, d.before a0 Z = true) : (Jvm.Cond.fieldLink "java/lang/String" (15 : Nat) "java/lang/String" "coder" "B").before a0 Z = true := hw _ (List.mem_of_getElem? (i := 31) rfl)
theorem d11_14 : decode jdk_42_method_151_code 14 = .ok (.return_, 1) := by decide +kernel
theorem rmB (l : Launch) (Z : State) (a0 : Array Value) (hw : ∀ d ∈ tables_1, d.before a0 Z = true) (h0 : Heap) (a1 t1 : Addr) (n0 : Nat) (E1 : Exa Z h0 a1 "java/lang/String") (V1 : Fld Z h0 a1 "java/lang/String" "value" "[B" .null) (C1 : Fld Z h0 a1 "java/lang/String" "coder" "B" (.int 0)) (Ga1 : n0 ≤ a1) (O0 : Old Z n0 h0) : Con l Z (⟨"java/lang/String", "<init>", "([BB)V"⟩ : MethodName) jdk_42_method_151_code 3 none [] ({ frames := 1, cells := 0, slots := 0, locals := 13 } : Room) 0 0 #[(.ref a1), (.ref t1), (.int (0 : Int32))] h0 (fun v h L => v = none ∧ Fr n0 L ∧ Keep h0 h [a1] ∧ Fld Z h a1 "java/lang/String" "value" "[B" (.ref t1) ∧ Fld Z h a1 "java/lang/String" "coder" "B" (.int 0)) := by
  refine Con.intro (plainFor_of_name pn_2) ?_
  intro p e s m below meth c s₁ X0 hx hby hml hZ hown hnm hret hlk e0 hs0
  refine Gl.of (fun _ kq_ => castTop (ef_4 m a1 t1 (0 : Int32)) kq_) ?_
  have K0 := Keep.refl h0 [a1]
  show Gl p e below _ (s₁.setTop (mkF m 0 #[.val (.ref a1), .val (.ref t1), .val (.int (0 : Int32))] []))
  refine Gl.of (fun _ kq_ => XS.aloadN X0.here hx rfl (hb hby d11_0) rfl rfl kq_) ?_
  obtain ⟨T1, X1, e1, st1⟩ := initO X0 hx hZ hown (w16 hw) (w17 hw) (w18 hw) e0 (g := (mkF m 1 #[.val (.ref a1), .val (.ref t1), .val (.int (0 : Int32))] [(.ref a1)])) rfl (by rw [hml]; rfl) rfl (hb hby d11_1) (by decide) (W := 0) (by show 2 * 0 + _ ≤ _; exact Nat.le_of_eq rfl) (by decide)
  refine Gl.of st1 ?_
  show Gl p e below _ (T1.setTop (mkF m 4 #[.val (.ref a1), .val (.ref t1), .val (.int (0 : Int32))] []))
  refine Gl.of (fun _ kq_ => XS.aloadN X1.here hx rfl (hb hby d11_4) rfl rfl kq_) ?_
  refine Gl.of (fun _ kq_ => XS.aloadN X1.here hx rfl (hb hby d11_5) rfl rfl kq_) ?_
  obtain ⟨T2, h2, X2, e2, W2, st2⟩ := putF X1 hx hZ hown (host := "") (Or.inl (w33 hw)) Via.refl e1 V1 E1 (Or.inr ⟨(w34 hw), rfl, hnm⟩) (w7 hw) (ty := (.array .byte)) (by decide) rfl rfl (g := (mkF m 6 #[.val (.ref a1), .val (.ref t1), .val (.int (0 : Int32))] [(.ref t1), (.ref a1)])) rfl rfl (hb hby d11_6)
  refine Gl.of st2 ?_
  have F2 : Fld Z h2 a1 "java/lang/String" "value" "[B" (.ref t1) := V1.same W2
  have ec3 := E1.wr W2
  have fc4 := C1.other W2 (Or.inr (slot_ne (Or.inr (w32 hw)) (Or.inr (w34 hw)) (by decide) (t := .byte) (t' := (.array .byte)) (by decide) (by decide)))
  have N2 := Fr.snoc X2 (Fr.nil n0) Ga1
  have O2 := O0.wr W2 Ga1
  have K2 := K0.wr W2 (Or.inl (List.mem_of_getElem? (i := 0) rfl))
  show Gl p e below _ (T2.setTop (mkF m 9 #[.val (.ref a1), .val (.ref t1), .val (.int (0 : Int32))] []))
  refine Gl.of (fun _ kq_ => XS.aloadN X2.here hx rfl (hb hby d11_9) rfl rfl kq_) ?_
  refine Gl.of (fun _ kq_ => XS.iloadN X2.here hx rfl (hb hby d11_10) rfl kq_) ?_
  obtain ⟨T5, h5, X5, e5, W5, st5⟩ := putFN X2 hx hZ hown (w31 hw) Via.refl e2 fc4 ec3 (Or.inr ⟨(w32 hw), rfl, hnm⟩) (w7 hw) (ty := .byte) (v' := (.int (nar .byte (0 : Int32)))) (by decide) rfl (fits_nar_byte _) (g := (mkF m 11 #[.val (.ref a1), .val (.ref t1), .val (.int (0 : Int32))] [(.int (0 : Int32)), (.ref a1)])) rfl rfl (hb hby d11_11)
  refine Gl.of st5 ?_
  have F5 : Fld Z h5 a1 "java/lang/String" "coder" "B" (.int (nar .byte (0 : Int32))) := fc4.same W5
  have ec6 := ec3.wr W5
  have fc7 := F2.other W5 (Or.inr (slot_ne (Or.inr (w34 hw)) (Or.inr (w32 hw)) (by decide) (t := (.array .byte)) (t' := .byte) (by decide) (by decide)))
  have N5 := Fr.snoc X5 N2 Ga1
  have O5 := O2.wr W5 Ga1
  have K5 := K2.wr W5 (Or.inl (List.mem_of_getElem? (i := 0) rfl))
  show Gl p e below _ (T5.setTop (mkF m 14 #[.val (.ref a1), .val (.ref t1), .val (.int (0 : Int32))] []))
  exact Gl.ret0 X5 hx hlk hret (hb hby d11_14) e5 (⟨rfl, N5, K5, fc7, F5⟩) (by decide) (by decide)
theorem ef_5 (m : MethodId) (x0 : Int32) : entryFrame m #[(.int x0)] 1 = mkF m 0 #[.val (.int x0)] [] := by first | (simp [entryFrame, mkF, argsToLocals, Value.category, maxLocals]; done) | rfl
theorem d8_0 : decode jdk_42_method_139_code 0 = .ok (.getstatic 38, 3) := by decide +kernel
theorem w19 {Z : State} {a0 : Array Value} (hw : ∀ d ∈ tables_1, d.before a0 Z = true) : (Jvm.Cond.fieldLink "java/lang/String" (38 : Nat) "java/lang/String" "COMPACT_STRINGS" "Z").before a0 Z = true := hw _ (List.mem_of_getElem? (i := 19) rfl)
theorem d8_3 : decode jdk_42_method_139_code 3 = .ok (.ifCond .eq 23, 3) := by decide +kernel
theorem d8_6 : decode jdk_42_method_139_code 6 = .ok (.iload_n 0, 1) := by decide +kernel
theorem d8_7 : decode jdk_42_method_139_code 7 = .ok (.invokestatic 1015, 3) := by decide +kernel
theorem pd_0 : parseMethodDescriptor "(C)Z" = some ⟨[.char], some .boolean⟩ := by decide +kernel
theorem w41 {Z : State} {a0 : Array Value} (hw : ∀ d ∈ tables_1, d.before a0 Z = true) : (Jvm.Cond.methodLink "java/lang/String" (1015 : Nat) ({ cls := "java/lang/StringLatin1", name := "canEncode", desc := "(C)Z" } : Jvm.MethodName)).before a0 Z = true := hw _ (List.mem_of_getElem? (i := 41) rfl)
theorem w42 {Z : State} {a0 : Array Value} (hw : ∀ d ∈ tables_1, d.before a0 Z = true) : (Jvm.Cond.static ({ cls := "java/lang/StringLatin1", name := "canEncode", desc := "(C)Z" } : Jvm.MethodName)).before a0 Z = true := hw _ (List.mem_of_getElem? (i := 42) rfl)
theorem w43 {Z : State} {a0 : Array Value} (hw : ∀ d ∈ tables_1, d.before a0 Z = true) : (Jvm.Cond.initialized "java/lang/StringLatin1").before a0 Z = true := hw _ (List.mem_of_getElem? (i := 43) rfl)
theorem w44 {Z : State} {a0 : Array Value} (hw : ∀ d ∈ tables_1, d.before a0 Z = true) : (Jvm.Cond.code ({ cls := "java/lang/StringLatin1", name := "canEncode", desc := "(C)Z" } : Jvm.MethodName) jdk_43_method_3_code (1 : Nat) (Option.some Jvm.ClassFile.FieldType.boolean)).before a0 Z = true := hw _ (List.mem_of_getElem? (i := 44) rfl)
theorem d8_10 : decode jdk_42_method_139_code 10 = .ok (.ifCond .eq 16, 3) := by decide +kernel
theorem d8_13 : decode jdk_42_method_139_code 13 = .ok (.new 10, 3) := by decide +kernel
theorem w45 {Z : State} {a0 : Array Value} (hw : ∀ d ∈ tables_1, d.before a0 Z = true) : (Jvm.Cond.classLink "java/lang/String" (10 : Nat) "java/lang/String").before a0 Z = true := hw _ (List.mem_of_getElem? (i := 45) rfl)
theorem w8 {Z : State} {a0 : Array Value} (hw : ∀ d ∈ tables_1, d.before a0 Z = true) : (Jvm.Cond.initialized "java/lang/String").before a0 Z = true := hw _ (List.mem_of_getElem? (i := 8) rfl)
theorem d8_16 : decode jdk_42_method_139_code 16 = .ok (.dup, 1) := by decide +kernel
theorem d8_17 : decode jdk_42_method_139_code 17 = .ok (.iload_n 0, 1) := by decide +kernel
theorem d8_18 : decode jdk_42_method_139_code 18 = .ok (.invokestatic 1018, 3) := by decide +kernel
theorem pd_1 : parseMethodDescriptor "(C)[B" = some ⟨[.char], some (.array .byte)⟩ := by decide +kernel
theorem w46 {Z : State} {a0 : Array Value} (hw : ∀ d ∈ tables_1, d.before a0 Z = true) : (Jvm.Cond.methodLink "java/lang/String" (1018 : Nat) ({ cls := "java/lang/StringLatin1", name := "toBytes", desc := "(C)[B" } : Jvm.MethodName)).before a0 Z = true := hw _ (List.mem_of_getElem? (i := 46) rfl)
theorem w47 {Z : State} {a0 : Array Value} (hw : ∀ d ∈ tables_1, d.before a0 Z = true) : (Jvm.Cond.static ({ cls := "java/lang/StringLatin1", name := "toBytes", desc := "(C)[B" } : Jvm.MethodName)).before a0 Z = true := hw _ (List.mem_of_getElem? (i := 47) rfl)
theorem w48 {Z : State} {a0 : Array Value} (hw : ∀ d ∈ tables_1, d.before a0 Z = true) : (Jvm.Cond.code ({ cls := "java/lang/StringLatin1", name := "toBytes", desc := "(C)[B" } : Jvm.MethodName) jdk_43_method_46_code (1 : Nat) (Option.some (Jvm.ClassFile.FieldType.array Jvm.ClassFile.FieldType.byte))).before a0 Z = true := hw _ (List.mem_of_getElem? (i := 48) rfl)
theorem d8_21 : decode jdk_42_method_139_code 21 = .ok (.iconst 0, 1) := by decide +kernel
theorem d8_22 : decode jdk_42_method_139_code 22 = .ok (.invokespecial 209, 3) := by decide +kernel
theorem pd_2 : parseMethodDescriptor "([BB)V" = some ⟨[(.array .byte), .byte], none⟩ := by decide +kernel
theorem w49 {Z : State} {a0 : Array Value} (hw : ∀ d ∈ tables_1, d.before a0 Z = true) : (Jvm.Cond.methodLink "java/lang/String" (209 : Nat) ({ cls := "java/lang/String", name := "<init>", desc := "([BB)V" } : Jvm.MethodName)).before a0 Z = true := hw _ (List.mem_of_getElem? (i := 49) rfl)
theorem w50 {Z : State} {a0 : Array Value} (hw : ∀ d ∈ tables_1, d.before a0 Z = true) : (Jvm.Cond.instanceMethod ({ cls := "java/lang/String", name := "<init>", desc := "([BB)V" } : Jvm.MethodName)).before a0 Z = true := hw _ (List.mem_of_getElem? (i := 50) rfl)
theorem w51 {Z : State} {a0 : Array Value} (hw : ∀ d ∈ tables_1, d.before a0 Z = true) : (Jvm.Cond.code ({ cls := "java/lang/String", name := "<init>", desc := "([BB)V" } : Jvm.MethodName) jdk_42_method_151_code (3 : Nat) (Option.none : Option Jvm.ClassFile.FieldType)).before a0 Z = true := hw _ (List.mem_of_getElem? (i := 51) rfl)
theorem d8_25 : decode jdk_42_method_139_code 25 = .ok (.areturn, 1) := by decide +kernel
theorem rmV (l : Launch) (Z : State) (a0 : Array Value) (hw : ∀ d ∈ tables_1, d.before a0 Z = true) (h0 : Heap) (p1 : Int32) (cz : Int32) (n0 : Nat) (hc : (¬ p1 < 0 ∧ ¬ (255 : Int32) < p1)) (SC : Sta Z Z.heap "java/lang/String" "COMPACT_STRINGS" "Z" (.int cz)) (hcz : ¬ cz = 0) (O0 : Old Z n0 h0) : Con l Z (⟨"java/lang/String", "valueOf", "(C)Ljava/lang/String;"⟩ : MethodName) jdk_42_method_139_code 1 (some (.object "java/lang/String")) [] ({ frames := 2, cells := 2, slots := 5, locals := 33 } : Room) 2 5 #[(.int p1)] h0 (fun v h L => ∃ r, v = some (.ref r) ∧ Keep h0 h [] ∧ Fr n0 L) := by
  refine Con.intro (plainFor_of_name pn_2) ?_
  intro p e s m below meth c s₁ X0 hx hby hml hZ hown hnm hret hlk e0 hs0
  refine Gl.of (fun _ kq_ => castTop (ef_5 m p1) kq_) ?_
  have K0 := Keep.refl h0 []
  show Gl p e below _ (s₁.setTop (mkF m 0 #[.val (.int p1)] []))
  obtain ⟨T1, X1, e1, st1⟩ := getS2 X0 hx hZ hown (host := "") (Or.inl (w19 hw)) Via.refl e0 (SC.ext O0.2) (g := (mkF m 0 #[.val (.int p1)] [])) rfl (hb hby d8_0)
  refine Gl.of st1 ?_
  show Gl p e below _ (T1.setTop (mkF m 3 #[.val (.int p1)] [(.int cz)]))
  refine Gl.of (fun _ kq_ => XS.ifNo X1.here hx rfl (hb hby d8_3) rfl ((if0 _ _).trans (feq hcz).1) kq_) ?_
  refine Gl.of (fun _ kq_ => XS.iloadN X1.here hx rfl (hb hby d8_6) rfl kq_) ?_
  refine Gl.callS0 X1 hx hZ (y := (⟨"java/lang/StringLatin1", "canEncode", "(C)Z"⟩ : MethodName)) hown (w41 hw) (w42 hw) (w43 hw) (w44 hw) (desc_ne (by decide)) (argsL := [(.int p1)]) (rest := []) (rmE l Z a0 hw _ p1 hc) 0 (by decide) (by decide) e1 (by rw [hml]; rfl) pd_0 rfl rfl (Nat.le_of_eq rfl) (hb hby d8_7) (by decide) (by decide) ?_
  intro v2 T2 X2 e2 hv2
  subst hv2
  show Gl p e below _ (T2.setTop (mkF m 10 #[.val (.int p1)] [(.int (1 : Int32))]))
  refine Gl.of (fun _ kq_ => XS.ifNo X2.here hx rfl (hb hby d8_10) rfl ((if0 _ _).trans (feq (by decide : ¬ ((1 : Int32) = (0 : Int32)))).1) kq_) ?_
  obtain ⟨T3, h3, X3, e3, E3, A3, D3, -, st3⟩ := newO X2 hx hZ hown (w45 hw) (w7 hw) (w8 hw) e2 (g := (mkF m 13 #[.val (.int p1)] [])) rfl (hb hby d8_13) (by decide) (by decide)
  obtain ⟨b3, g3⟩ : ∃ z, z = h0.size := ⟨_, rfl⟩
  rw [← g3] at A3 D3 st3
  refine Gl.of st3 ?_
  have Gb3 : n0 ≤ b3 := Nat.le_trans (O0.1 ▸ O0.2.1) (Nat.le_of_eq g3.symm)
  have Jb3 : h0.size ≤ b3 := Nat.le_trans K0.1 (Nat.le_of_eq g3.symm)
  have O3 := O0.ext E3
  have K3 := K0.ext E3
  have F3_coder : Fld Z h3 b3 "java/lang/String" "coder" "B" (.int (0 : Int32)) := D3 (Or.inr (w32 hw)) (ty := .byte) (by decide)
  have F3_value : Fld Z h3 b3 "java/lang/String" "value" "[B" .null := D3 (Or.inr (w34 hw)) (ty := (.array .byte)) (by decide)
  show Gl p e below _ (T3.setTop (mkF m 16 #[.val (.int p1)] [(.ref b3)]))
  refine Gl.of (fun _ kq_ => XS.dup X3.here hx rfl (hb hby d8_16) rfl rfl kq_) ?_
  refine Gl.of (fun _ kq_ => XS.iloadN X3.here hx rfl (hb hby d8_17) rfl kq_) ?_
  refine Gl.callS X3 hx hZ (y := (⟨"java/lang/StringLatin1", "toBytes", "(C)[B"⟩ : MethodName)) hown (w46 hw) (w47 hw) (w43 hw) (w48 hw) (desc_ne (by decide)) (rm := { frames := 0, cells := 1, slots := 1, locals := 0 }) (argsL := [(.int p1)]) (rest := [(.ref b3), (.ref b3)]) (rmT l Z a0 hw _ p1 n0 O3) 2 (by decide) (by decide) (by decide) (by decide) e3 (by rw [hml]; rfl) pd_1 rfl rfl (Nat.le_of_eq rfl) (hb hby d8_18) ?_
  intro v4 T4 L4 X4 hQ4
  obtain ⟨r4, rfl, Kq4, Nq4⟩ := hQ4
  have N4 := Fr.app (Fr.nil n0) Nq4
  have ec5 := A3.keep Kq4
  have fc6 := F3_coder.keep Kq4 (by simp)
  have fc7 := F3_value.keep Kq4 (by simp)
  have O4 := O3.keep Kq4 all0
  have K4 := K3.trans Kq4 (by intro x hx'; exact nomatch hx')
  show Gl p e below _ (T4.setTop (mkF m 21 #[.val (.int p1)] [(.ref r4), (.ref b3), (.ref b3)]))
  refine Gl.of (fun _ kq_ => XS.iconst X4.here hx rfl (hb hby d8_21) kq_) ?_
  refine Gl.callI X4 hx hZ (y := (⟨"java/lang/String", "<init>", "([BB)V"⟩ : MethodName)) rfl hown (w49 hw) (w50 hw) (w8 hw) (w51 hw) (desc_ne (by decide)) (rm := { frames := 1, cells := 0, slots := 0, locals := 13 }) (b := b3) (argsL := [(.ref r4), (.int (0 : Int32))]) (rest := [(.ref b3)]) (rmB l Z a0 hw _ b3 r4 n0 ec5 fc7 fc6 Gb3 O4) 1 (by decide) (by decide) (by decide) (by decide) rfl (by rw [hml]; rfl) pd_2 rfl rfl (Nat.le_of_eq rfl) (hb hby d8_22) ?_
  intro v8 T8 L8 X8 hQ8
  obtain ⟨rfl, Nq8, Kq8, Fv8, Fc8⟩ := hQ8
  have N8 := Fr.app N4 Nq8
  have ec9 := ec5.keep Kq8
  have O8 := O4.keep Kq8 (allS Gb3 all0)
  have K8 := K4.trans Kq8 (by intro x hx'; cases List.mem_singleton.mp hx'; exact Or.inr Jb3)
  show Gl p e below _ (T8.setTop (mkF m 25 #[.val (.int p1)] [(.ref b3)]))
  exact Gl.retR X8 hx hlk hret rfl rfl (hb hby d8_25) rfl (⟨_, rfl, K8, N8⟩) (by decide) (by decide)
theorem ef_6 (m : MethodId) (x0 : Addr) : entryFrame m #[(.ref x0)] 1 = mkF m 0 #[.val (.ref x0)] [] := by first | (simp [entryFrame, mkF, argsToLocals, Value.category, maxLocals]; done) | rfl
theorem pn_3 : plainName "java/lang/Record" = true := by first | (simp [plainName, overriddenIn]; done) | decide +kernel
theorem d13_0 : decode jdk_30_method_1_code 0 = .ok (.aload_n 0, 1) := by decide +kernel
theorem d13_1 : decode jdk_30_method_1_code 1 = .ok (.invokespecial 1, 3) := by decide +kernel
theorem w60 {Z : State} {a0 : Array Value} (hw : ∀ d ∈ tables_1, d.before a0 Z = true) : (Jvm.Cond.methodLink "java/lang/Record" (1 : Nat) ({ cls := "java/lang/Object", name := "<init>", desc := "()V" } : Jvm.MethodName)).before a0 Z = true := hw _ (List.mem_of_getElem? (i := 60) rfl)
theorem d13_4 : decode jdk_30_method_1_code 4 = .ok (.return_, 1) := by decide +kernel
theorem rmR (l : Launch) (Z : State) (a0 : Array Value) (hw : ∀ d ∈ tables_1, d.before a0 Z = true) (h0 : Heap) (a1 : Addr) : Con l Z (⟨"java/lang/Record", "<init>", "()V"⟩ : MethodName) jdk_30_method_1_code 1 none [] ({ frames := 1, cells := 0, slots := 0, locals := 12 } : Room) 0 0 #[(.ref a1)] h0 (Pur (fun v => v = none) h0) := by
  refine Con.intro (plainFor_of_name pn_3) ?_
  intro p e s m below meth c s₁ X0 hx hby hml hZ hown hnm hret hlk e0 hs0
  refine Gl.of (fun _ kq_ => castTop (ef_6 m a1) kq_) ?_
  show Gl p e below _ (s₁.setTop (mkF m 0 #[.val (.ref a1)] []))
  refine Gl.of (fun _ kq_ => XS.aloadN X0.here hx rfl (hb hby d13_0) rfl rfl kq_) ?_
  obtain ⟨T1, X1, e1, st1⟩ := initO X0 hx hZ hown (w60 hw) (w17 hw) (w18 hw) e0 (g := (mkF m 1 #[.val (.ref a1)] [(.ref a1)])) rfl (by rw [hml]; rfl) rfl (hb hby d13_1) (by decide) (W := 0) (by show 2 * 0 + _ ≤ _; exact Nat.le_of_eq rfl) (by decide)
  refine Gl.of st1 ?_
  show Gl p e below _ (T1.setTop (mkF m 4 #[.val (.ref a1)] []))
  exact Gl.ret0 X1 hx hlk hret (hb hby d13_4) e1 (⟨rfl, rfl, rfl⟩) (by decide) (by decide)
theorem ef_7 (m : MethodId) (x0 : Addr) (x1 : Addr) (x2 : Addr)  (x4 : Int32) (x5 : Int32) (x6 : Int32) : entryFrame m #[(.ref x0), (.ref x1), (.ref x2), .null, (.int x4), (.int x5), (.int x6)] 7 = mkF m 0 #[.val (.ref x0), .val (.ref x1), .val (.ref x2), .val .null, .val (.int x4), .val (.int x5), .val (.int x6)] [] := by first | (simp [entryFrame, mkF, argsToLocals, Value.category, maxLocals]; done) | rfl
theorem pn_4 : plainName "com/example/rulr/rulr/policy/SqlCondition$Membership" = true := by first | (simp [plainName, overriddenIn]; done) | decide +kernel
theorem d12_0 : decode prog_56_method_1_code 0 = .ok (.aload_n 0, 1) := by decide +kernel
theorem d12_1 : decode prog_56_method_1_code 1 = .ok (.invokespecial 1, 3) := by decide +kernel
theorem pd_3 : parseMethodDescriptor "()V" = some ⟨[], none⟩ := by decide +kernel
theorem w55 {Z : State} {a0 : Array Value} (hw : ∀ d ∈ tables_1, d.before a0 Z = true) : (Jvm.Cond.methodLink "com/example/rulr/rulr/policy/SqlCondition$Membership" (1 : Nat) ({ cls := "java/lang/Record", name := "<init>", desc := "()V" } : Jvm.MethodName)).before a0 Z = true := hw _ (List.mem_of_getElem? (i := 55) rfl)
theorem w56 {Z : State} {a0 : Array Value} (hw : ∀ d ∈ tables_1, d.before a0 Z = true) : (Jvm.Cond.instanceMethod ({ cls := "java/lang/Record", name := "<init>", desc := "()V" } : Jvm.MethodName)).before a0 Z = true := hw _ (List.mem_of_getElem? (i := 56) rfl)
theorem w58 {Z : State} {a0 : Array Value} (hw : ∀ d ∈ tables_1, d.before a0 Z = true) : (Jvm.Cond.initialized "java/lang/Record").before a0 Z = true := hw _ (List.mem_of_getElem? (i := 58) rfl)
theorem w59 {Z : State} {a0 : Array Value} (hw : ∀ d ∈ tables_1, d.before a0 Z = true) : (Jvm.Cond.code ({ cls := "java/lang/Record", name := "<init>", desc := "()V" } : Jvm.MethodName) jdk_30_method_1_code (1 : Nat) (Option.none : Option Jvm.ClassFile.FieldType)).before a0 Z = true := hw _ (List.mem_of_getElem? (i := 59) rfl)
theorem d12_4 : decode prog_56_method_1_code 4 = .ok (.aload_n 0, 1) := by decide +kernel
theorem d12_5 : decode prog_56_method_1_code 5 = .ok (.aload_n 1, 1) := by decide +kernel
theorem d12_6 : decode prog_56_method_1_code 6 = .ok (.putfield 7, 3) := by decide +kernel
theorem w61 {Z : State} {a0 : Array Value} (hw : ∀ d ∈ tables_1, d.before a0 Z = true) : (Jvm.Cond.fieldLink "com/example/rulr/rulr/policy/SqlCondition$Membership" (7 : Nat) "com/example/rulr/rulr/policy/SqlCondition$Membership" "column" "Ljava/lang/String;").before a0 Z = true := hw _ (List.mem_of_getElem? (i := 61) rfl)
theorem w62 {Z : State} {a0 : Array Value} (hw : ∀ d ∈ tables_1, d.before a0 Z = true) : (Jvm.Cond.laysFinal "com/example/rulr/rulr/policy/SqlCondition$Membership" "com/example/rulr/rulr/policy/SqlCondition$Membership" "column" "Ljava/lang/String;").before a0 Z = true := hw _ (List.mem_of_getElem? (i := 62) rfl)
theorem w36 {Z : State} {a0 : Array Value} (hw : ∀ d ∈ tables_1, d.before a0 Z = true) : (Jvm.Cond.instantiable "com/example/rulr/rulr/policy/SqlCondition$Membership" (6 : Nat)).before a0 Z = true := hw _ (List.mem_of_getElem? (i := 36) rfl)
theorem w64 {Z : State} {a0 : Array Value} (hw : ∀ d ∈ tables_1, d.before a0 Z = true) : (Jvm.Cond.laysFinal "com/example/rulr/rulr/policy/SqlCondition$Membership" "com/example/rulr/rulr/policy/SqlCondition$Membership" "query" "Ljava/lang/String;").before a0 Z = true := hw _ (List.mem_of_getElem? (i := 64) rfl)
theorem w66 {Z : State} {a0 : Array Value} (hw : ∀ d ∈ tables_1, d.before a0 Z = true) : (Jvm.Cond.laysFinal "com/example/rulr/rulr/policy/SqlCondition$Membership" "com/example/rulr/rulr/policy/SqlCondition$Membership" "varying" "Lcom/example/rulr/rulr/policy/SqlCondition$Span;").before a0 Z = true := hw _ (List.mem_of_getElem? (i := 66) rfl)
theorem w68 {Z : State} {a0 : Array Value} (hw : ∀ d ∈ tables_1, d.before a0 Z = true) : (Jvm.Cond.laysFinal "com/example/rulr/rulr/policy/SqlCondition$Membership" "com/example/rulr/rulr/policy/SqlCondition$Membership" "selected" "I").before a0 Z = true := hw _ (List.mem_of_getElem? (i := 68) rfl)
theorem w70 {Z : State} {a0 : Array Value} (hw : ∀ d ∈ tables_1, d.before a0 Z = true) : (Jvm.Cond.laysFinal "com/example/rulr/rulr/policy/SqlCondition$Membership" "com/example/rulr/rulr/policy/SqlCondition$Membership" "anchored" "Z").before a0 Z = true := hw _ (List.mem_of_getElem? (i := 70) rfl)
theorem w72 {Z : State} {a0 : Array Value} (hw : ∀ d ∈ tables_1, d.before a0 Z = true) : (Jvm.Cond.laysFinal "com/example/rulr/rulr/policy/SqlCondition$Membership" "com/example/rulr/rulr/policy/SqlCondition$Membership" "joined" "I").before a0 Z = true := hw _ (List.mem_of_getElem? (i := 72) rfl)
theorem d12_9 : decode prog_56_method_1_code 9 = .ok (.aload_n 0, 1) := by decide +kernel
theorem d12_10 : decode prog_56_method_1_code 10 = .ok (.aload_n 2, 1) := by decide +kernel
theorem d12_11 : decode prog_56_method_1_code 11 = .ok (.putfield 13, 3) := by decide +kernel
theorem w63 {Z : State} {a0 : Array Value} (hw : ∀ d ∈ tables_1, d.before a0 Z = true) : (Jvm.Cond.fieldLink "com/example/rulr/rulr/policy/SqlCondition$Membership" (13 : Nat) "com/example/rulr/rulr/policy/SqlCondition$Membership" "query" "Ljava/lang/String;").before a0 Z = true := hw _ (List.mem_of_getElem? (i := 63) rfl)
theorem d12_14 : decode prog_56_method_1_code 14 = .ok (.aload_n 0, 1) := by decide +kernel
theorem d12_15 : decode prog_56_method_1_code 15 = .ok (.aload_n 3, 1) := by decide +kernel
theorem d12_16 : decode prog_56_method_1_code 16 = .ok (.putfield 16, 3) := by decide +kernel
theorem w65 {Z : State} {a0 : Array Value} (hw : ∀ d ∈ tables_1, d.before a0 Z = true) : (Jvm.Cond.fieldLink "com/example/rulr/rulr/policy/SqlCondition$Membership" (16 : Nat) "com/example/rulr/rulr/policy/SqlCondition$Membership" "varying" "Lcom/example/rulr/rulr/policy/SqlCondition$Span;").before a0 Z = true := hw _ (List.mem_of_getElem? (i := 65) rfl)
theorem d12_19 : decode prog_56_method_1_code 19 = .ok (.aload_n 0, 1) := by decide +kernel
theorem d12_20 : decode prog_56_method_1_code 20 = .ok (.iload 4, 2) := by decide +kernel
theorem d12_22 : decode prog_56_method_1_code 22 = .ok (.putfield 20, 3) := by decide +kernel
theorem w67 {Z : State} {a0 : Array Value} (hw : ∀ d ∈ tables_1, d.before a0 Z = true) : (Jvm.Cond.fieldLink "com/example/rulr/rulr/policy/SqlCondition$Membership" (20 : Nat) "com/example/rulr/rulr/policy/SqlCondition$Membership" "selected" "I").before a0 Z = true := hw _ (List.mem_of_getElem? (i := 67) rfl)
theorem d12_25 : decode prog_56_method_1_code 25 = .ok (.aload_n 0, 1) := by decide +kernel
theorem d12_26 : decode prog_56_method_1_code 26 = .ok (.iload 5, 2) := by decide +kernel
theorem d12_28 : decode prog_56_method_1_code 28 = .ok (.putfield 24, 3) := by decide +kernel
theorem w69 {Z : State} {a0 : Array Value} (hw : ∀ d ∈ tables_1, d.before a0 Z = true) : (Jvm.Cond.fieldLink "com/example/rulr/rulr/policy/SqlCondition$Membership" (24 : Nat) "com/example/rulr/rulr/policy/SqlCondition$Membership" "anchored" "Z").before a0 Z = true := hw _ (List.mem_of_getElem? (i := 69) rfl)
theorem d12_31 : decode prog_56_method_1_code 31 = .ok (.aload_n 0, 1) := by decide +kernel
theorem d12_32 : decode prog_56_method_1_code 32 = .ok (.iload 6, 2) := by decide +kernel
theorem d12_34 : decode prog_56_method_1_code 34 = .ok (.putfield 28, 3) := by decide +kernel
theorem w71 {Z : State} {a0 : Array Value} (hw : ∀ d ∈ tables_1, d.before a0 Z = true) : (Jvm.Cond.fieldLink "com/example/rulr/rulr/policy/SqlCondition$Membership" (28 : Nat) "com/example/rulr/rulr/policy/SqlCondition$Membership" "joined" "I").before a0 Z = true := hw _ (List.mem_of_getElem? (i := 71) rfl)
theorem d12_37 : decode prog_56_method_1_code 37 = .ok (.return_, 1) := by decide +kernel
theorem rmM (l : Launch) (Z : State) (a0 : Array Value) (hw : ∀ d ∈ tables_1, d.before a0 Z = true) (h0 : Heap) (a1 x1 x2 : Addr) (p4 p5 p6 : Int32) (n0 : Nat) (E1 : Exa Z h0 a1 "com/example/rulr/rulr/policy/SqlCondition$Membership") (I_column : Fld Z h0 a1 "com/example/rulr/rulr/policy/SqlCondition$Membership" "column" "Ljava/lang/String;" .null) (I_query : Fld Z h0 a1 "com/example/rulr/rulr/policy/SqlCondition$Membership" "query" "Ljava/lang/String;" .null) (I_varying : Fld Z h0 a1 "com/example/rulr/rulr/policy/SqlCondition$Membership" "varying" "Lcom/example/rulr/rulr/policy/SqlCondition$Span;" .null) (I_selected : Fld Z h0 a1 "com/example/rulr/rulr/policy/SqlCondition$Membership" "selected" "I" (.int 0)) (I_anchored : Fld Z h0 a1 "com/example/rulr/rulr/policy/SqlCondition$Membership" "anchored" "Z" (.int 0)) (I_joined : Fld Z h0 a1 "com/example/rulr/rulr/policy/SqlCondition$Membership" "joined" "I" (.int 0)) (Ga1 : n0 ≤ a1) (O0 : Old Z n0 h0) : Con l Z (⟨"com/example/rulr/rulr/policy/SqlCondition$Membership", "<init>", "(Ljava/lang/String;Ljava/lang/String;Lcom/example/rulr/rulr/policy/SqlCondition$Span;IZI)V"⟩ : MethodName) prog_56_method_1_code 7 none [] ({ frames := 2, cells := 0, slots := 0, locals := 25 } : Room) 0 0 #[(.ref a1), (.ref x1), (.ref x2), .null, (.int p4), (.int p5), (.int p6)] h0 (fun v h L => v = none ∧ Fr n0 L ∧ Keep h0 h [a1] ∧ Fld Z h a1 "com/example/rulr/rulr/policy/SqlCondition$Membership" "query" "Ljava/lang/String;" (.ref x2) ∧ Fld Z h a1 "com/example/rulr/rulr/policy/SqlCondition$Membership" "selected" "I" (.int p4)) := by
  refine Con.intro (plainFor_of_name pn_4) ?_
  intro p e s m below meth c s₁ X0 hx hby hml hZ hown hnm hret hlk e0 hs0
  refine Gl.of (fun _ kq_ => castTop (ef_7 m a1 x1 x2  p4 p5 p6) kq_) ?_
  have K0 := Keep.refl h0 [a1]
  show Gl p e below _ (s₁.setTop (mkF m 0 #[.val (.ref a1), .val (.ref x1), .val (.ref x2), .val .null, .val (.int p4), .val (.int p5), .val (.int p6)] []))
  refine Gl.of (fun _ kq_ => XS.aloadN X0.here hx rfl (hb hby d12_0) rfl rfl kq_) ?_
  refine Gl.callI0 X0 hx hZ (y := (⟨"java/lang/Record", "<init>", "()V"⟩ : MethodName)) rfl hown (w55 hw) (w56 hw) (w58 hw) (w59 hw) (desc_ne (by decide)) (b := a1) (argsL := []) (rest := []) (rmR l Z a0 hw _ a1) 0 (by decide) (by decide) e0 (by rw [hml]; rfl) pd_3 rfl rfl (Nat.le_of_eq rfl) (hb hby d12_1) (by decide) (by decide) ?_
  intro v1 T1 X1 e1 hv1
  subst hv1
  show Gl p e below _ (T1.setTop (mkF m 4 #[.val (.ref a1), .val (.ref x1), .val (.ref x2), .val .null, .val (.int p4), .val (.int p5), .val (.int p6)] []))
  refine Gl.of (fun _ kq_ => XS.aloadN X1.here hx rfl (hb hby d12_4) rfl rfl kq_) ?_
  refine Gl.of (fun _ kq_ => XS.aloadN X1.here hx rfl (hb hby d12_5) rfl rfl kq_) ?_
  obtain ⟨T2, h2, X2, e2, W2, st2⟩ := putF X1 hx hZ hown (host := "") (Or.inl (w61 hw)) Via.refl e1 I_column E1 (Or.inr ⟨(w62 hw), rfl, hnm⟩) (w36 hw) (ty := (.object "java/lang/String")) (by decide) rfl rfl (g := (mkF m 6 #[.val (.ref a1), .val (.ref x1), .val (.ref x2), .val .null, .val (.int p4), .val (.int p5), .val (.int p6)] [(.ref x1), (.ref a1)])) rfl rfl (hb hby d12_6)
  refine Gl.of st2 ?_
  have F2 : Fld Z h2 a1 "com/example/rulr/rulr/policy/SqlCondition$Membership" "column" "Ljava/lang/String;" (.ref x1) := I_column.same W2
  have ec3 := E1.wr W2
  have fc4 := I_query.other W2 (Or.inr (slot_ne (Or.inr (w64 hw)) (Or.inr (w62 hw)) (by decide) (t := (.object "java/lang/String")) (t' := (.object "java/lang/String")) (by decide) (by decide)))
  have fc5 := I_varying.other W2 (Or.inr (slot_ne (Or.inr (w66 hw)) (Or.inr (w62 hw)) (by decide) (t := (.object "com/example/rulr/rulr/policy/SqlCondition$Span")) (t' := (.object "java/lang/String")) (by decide) (by decide)))
  have fc6 := I_selected.other W2 (Or.inr (slot_ne (Or.inr (w68 hw)) (Or.inr (w62 hw)) (by decide) (t := .int) (t' := (.object "java/lang/String")) (by decide) (by decide)))
  have fc7 := I_anchored.other W2 (Or.inr (slot_ne (Or.inr (w70 hw)) (Or.inr (w62 hw)) (by decide) (t := .boolean) (t' := (.object "java/lang/String")) (by decide) (by decide)))
  have fc8 := I_joined.other W2 (Or.inr (slot_ne (Or.inr (w72 hw)) (Or.inr (w62 hw)) (by decide) (t := .int) (t' := (.object "java/lang/String")) (by decide) (by decide)))
  have N2 := Fr.snoc X2 (Fr.nil n0) Ga1
  have O2 := O0.wr W2 Ga1
  have K2 := K0.wr W2 (Or.inl (List.mem_of_getElem? (i := 0) rfl))
  show Gl p e below _ (T2.setTop (mkF m 9 #[.val (.ref a1), .val (.ref x1), .val (.ref x2), .val .null, .val (.int p4), .val (.int p5), .val (.int p6)] []))
  refine Gl.of (fun _ kq_ => XS.aloadN X2.here hx rfl (hb hby d12_9) rfl rfl kq_) ?_
  refine Gl.of (fun _ kq_ => XS.aloadN X2.here hx rfl (hb hby d12_10) rfl rfl kq_) ?_
  obtain ⟨T9, h9, X9, e9, W9, st9⟩ := putF X2 hx hZ hown (host := "") (Or.inl (w63 hw)) Via.refl e2 fc4 ec3 (Or.inr ⟨(w64 hw), rfl, hnm⟩) (w36 hw) (ty := (.object "java/lang/String")) (by decide) rfl rfl (g := (mkF m 11 #[.val (.ref a1), .val (.ref x1), .val (.ref x2), .val .null, .val (.int p4), .val (.int p5), .val (.int p6)] [(.ref x2), (.ref a1)])) rfl rfl (hb hby d12_11)
  refine Gl.of st9 ?_
  have F9 : Fld Z h9 a1 "com/example/rulr/rulr/policy/SqlCondition$Membership" "query" "Ljava/lang/String;" (.ref x2) := fc4.same W9
  have ec10 := ec3.wr W9
  have fc11 := fc5.other W9 (Or.inr (slot_ne (Or.inr (w66 hw)) (Or.inr (w64 hw)) (by decide) (t := (.object "com/example/rulr/rulr/policy/SqlCondition$Span")) (t' := (.object "java/lang/String")) (by decide) (by decide)))
  have fc12 := fc6.other W9 (Or.inr (slot_ne (Or.inr (w68 hw)) (Or.inr (w64 hw)) (by decide) (t := .int) (t' := (.object "java/lang/String")) (by decide) (by decide)))
  have fc13 := fc7.other W9 (Or.inr (slot_ne (Or.inr (w70 hw)) (Or.inr (w64 hw)) (by decide) (t := .boolean) (t' := (.object "java/lang/String")) (by decide) (by decide)))
  have fc14 := fc8.other W9 (Or.inr (slot_ne (Or.inr (w72 hw)) (Or.inr (w64 hw)) (by decide) (t := .int) (t' := (.object "java/lang/String")) (by decide) (by decide)))
  have fc15 := F2.other W9 (Or.inr (slot_ne (Or.inr (w62 hw)) (Or.inr (w64 hw)) (by decide) (t := (.object "java/lang/String")) (t' := (.object "java/lang/String")) (by decide) (by decide)))
  have N9 := Fr.snoc X9 N2 Ga1
  have O9 := O2.wr W9 Ga1
  have K9 := K2.wr W9 (Or.inl (List.mem_of_getElem? (i := 0) rfl))
  show Gl p e below _ (T9.setTop (mkF m 14 #[.val (.ref a1), .val (.ref x1), .val (.ref x2), .val .null, .val (.int p4), .val (.int p5), .val (.int p6)] []))
  refine Gl.of (fun _ kq_ => XS.aloadN X9.here hx rfl (hb hby d12_14) rfl rfl kq_) ?_
  refine Gl.of (fun _ kq_ => XS.aloadN X9.here hx rfl (hb hby d12_15) rfl rfl kq_) ?_
  obtain ⟨T16, h16, X16, e16, W16, st16⟩ := putF X9 hx hZ hown (host := "") (Or.inl (w65 hw)) Via.refl e9 fc11 ec10 (Or.inr ⟨(w66 hw), rfl, hnm⟩) (w36 hw) (ty := (.object "com/example/rulr/rulr/policy/SqlCondition$Span")) (by decide) rfl rfl (g := (mkF m 16 #[.val (.ref a1), .val (.ref x1), .val (.ref x2), .val .null, .val (.int p4), .val (.int p5), .val (.int p6)] [.null, (.ref a1)])) rfl rfl (hb hby d12_16)
  refine Gl.of st16 ?_
  have F16 : Fld Z h16 a1 "com/example/rulr/rulr/policy/SqlCondition$Membership" "varying" "Lcom/example/rulr/rulr/policy/SqlCondition$Span;" .null := fc11.same W16
  have ec17 := ec10.wr W16
  have fc18 := fc12.other W16 (Or.inr (slot_ne (Or.inr (w68 hw)) (Or.inr (w66 hw)) (by decide) (t := .int) (t' := (.object "com/example/rulr/rulr/policy/SqlCondition$Span")) (by decide) (by decide)))
  have fc19 := fc13.other W16 (Or.inr (slot_ne (Or.inr (w70 hw)) (Or.inr (w66 hw)) (by decide) (t := .boolean) (t' := (.object "com/example/rulr/rulr/policy/SqlCondition$Span")) (by decide) (by decide)))
  have fc20 := fc14.other W16 (Or.inr (slot_ne (Or.inr (w72 hw)) (Or.inr (w66 hw)) (by decide) (t := .int) (t' := (.object "com/example/rulr/rulr/policy/SqlCondition$Span")) (by decide) (by decide)))
  have fc21 := fc15.other W16 (Or.inr (slot_ne (Or.inr (w62 hw)) (Or.inr (w66 hw)) (by decide) (t := (.object "java/lang/String")) (t' := (.object "com/example/rulr/rulr/policy/SqlCondition$Span")) (by decide) (by decide)))
  have fc22 := F9.other W16 (Or.inr (slot_ne (Or.inr (w64 hw)) (Or.inr (w66 hw)) (by decide) (t := (.object "java/lang/String")) (t' := (.object "com/example/rulr/rulr/policy/SqlCondition$Span")) (by decide) (by decide)))
  have N16 := Fr.snoc X16 N9 Ga1
  have O16 := O9.wr W16 Ga1
  have K16 := K9.wr W16 (Or.inl (List.mem_of_getElem? (i := 0) rfl))
  show Gl p e below _ (T16.setTop (mkF m 19 #[.val (.ref a1), .val (.ref x1), .val (.ref x2), .val .null, .val (.int p4), .val (.int p5), .val (.int p6)] []))
  refine Gl.of (fun _ kq_ => XS.aloadN X16.here hx rfl (hb hby d12_19) rfl rfl kq_) ?_
  refine Gl.of (fun _ kq_ => XS.iload X16.here hx rfl (hb hby d12_20) rfl kq_) ?_
  obtain ⟨T23, h23, X23, e23, W23, st23⟩ := putF X16 hx hZ hown (host := "") (Or.inl (w67 hw)) Via.refl e16 fc18 ec17 (Or.inr ⟨(w68 hw), rfl, hnm⟩) (w36 hw) (ty := .int) (by decide) rfl rfl (g := (mkF m 22 #[.val (.ref a1), .val (.ref x1), .val (.ref x2), .val .null, .val (.int p4), .val (.int p5), .val (.int p6)] [(.int p4), (.ref a1)])) rfl rfl (hb hby d12_22)
  refine Gl.of st23 ?_
  have F23 : Fld Z h23 a1 "com/example/rulr/rulr/policy/SqlCondition$Membership" "selected" "I" (.int p4) := fc18.same W23
  have ec24 := ec17.wr W23
  have fc25 := fc19.other W23 (Or.inr (slot_ne (Or.inr (w70 hw)) (Or.inr (w68 hw)) (by decide) (t := .boolean) (t' := .int) (by decide) (by decide)))
  have fc26 := fc20.other W23 (Or.inr (slot_ne (Or.inr (w72 hw)) (Or.inr (w68 hw)) (by decide) (t := .int) (t' := .int) (by decide) (by decide)))
  have fc27 := fc21.other W23 (Or.inr (slot_ne (Or.inr (w62 hw)) (Or.inr (w68 hw)) (by decide) (t := (.object "java/lang/String")) (t' := .int) (by decide) (by decide)))
  have fc28 := fc22.other W23 (Or.inr (slot_ne (Or.inr (w64 hw)) (Or.inr (w68 hw)) (by decide) (t := (.object "java/lang/String")) (t' := .int) (by decide) (by decide)))
  have fc29 := F16.other W23 (Or.inr (slot_ne (Or.inr (w66 hw)) (Or.inr (w68 hw)) (by decide) (t := (.object "com/example/rulr/rulr/policy/SqlCondition$Span")) (t' := .int) (by decide) (by decide)))
  have N23 := Fr.snoc X23 N16 Ga1
  have O23 := O16.wr W23 Ga1
  have K23 := K16.wr W23 (Or.inl (List.mem_of_getElem? (i := 0) rfl))
  show Gl p e below _ (T23.setTop (mkF m 25 #[.val (.ref a1), .val (.ref x1), .val (.ref x2), .val .null, .val (.int p4), .val (.int p5), .val (.int p6)] []))
  refine Gl.of (fun _ kq_ => XS.aloadN X23.here hx rfl (hb hby d12_25) rfl rfl kq_) ?_
  refine Gl.of (fun _ kq_ => XS.iload X23.here hx rfl (hb hby d12_26) rfl kq_) ?_
  obtain ⟨T30, h30, X30, e30, W30, st30⟩ := putFN X23 hx hZ hown (w69 hw) Via.refl e23 fc25 ec24 (Or.inr ⟨(w70 hw), rfl, hnm⟩) (w36 hw) (ty := .boolean) (v' := (.int (nar .boolean p5))) (by decide) rfl (fits_nar_bool _) (g := (mkF m 28 #[.val (.ref a1), .val (.ref x1), .val (.ref x2), .val .null, .val (.int p4), .val (.int p5), .val (.int p6)] [(.int p5), (.ref a1)])) rfl rfl (hb hby d12_28)
  refine Gl.of st30 ?_
  have F30 : Fld Z h30 a1 "com/example/rulr/rulr/policy/SqlCondition$Membership" "anchored" "Z" (.int (nar .boolean p5)) := fc25.same W30
  have ec31 := ec24.wr W30
  have fc32 := fc26.other W30 (Or.inr (slot_ne (Or.inr (w72 hw)) (Or.inr (w70 hw)) (by decide) (t := .int) (t' := .boolean) (by decide) (by decide)))
  have fc33 := fc27.other W30 (Or.inr (slot_ne (Or.inr (w62 hw)) (Or.inr (w70 hw)) (by decide) (t := (.object "java/lang/String")) (t' := .boolean) (by decide) (by decide)))
  have fc34 := fc28.other W30 (Or.inr (slot_ne (Or.inr (w64 hw)) (Or.inr (w70 hw)) (by decide) (t := (.object "java/lang/String")) (t' := .boolean) (by decide) (by decide)))
  have fc35 := fc29.other W30 (Or.inr (slot_ne (Or.inr (w66 hw)) (Or.inr (w70 hw)) (by decide) (t := (.object "com/example/rulr/rulr/policy/SqlCondition$Span")) (t' := .boolean) (by decide) (by decide)))
  have fc36 := F23.other W30 (Or.inr (slot_ne (Or.inr (w68 hw)) (Or.inr (w70 hw)) (by decide) (t := .int) (t' := .boolean) (by decide) (by decide)))
  have N30 := Fr.snoc X30 N23 Ga1
  have O30 := O23.wr W30 Ga1
  have K30 := K23.wr W30 (Or.inl (List.mem_of_getElem? (i := 0) rfl))
  show Gl p e below _ (T30.setTop (mkF m 31 #[.val (.ref a1), .val (.ref x1), .val (.ref x2), .val .null, .val (.int p4), .val (.int p5), .val (.int p6)] []))
  refine Gl.of (fun _ kq_ => XS.aloadN X30.here hx rfl (hb hby d12_31) rfl rfl kq_) ?_
  refine Gl.of (fun _ kq_ => XS.iload X30.here hx rfl (hb hby d12_32) rfl kq_) ?_
  obtain ⟨T37, h37, X37, e37, W37, st37⟩ := putF X30 hx hZ hown (host := "") (Or.inl (w71 hw)) Via.refl e30 fc32 ec31 (Or.inr ⟨(w72 hw), rfl, hnm⟩) (w36 hw) (ty := .int) (by decide) rfl rfl (g := (mkF m 34 #[.val (.ref a1), .val (.ref x1), .val (.ref x2), .val .null, .val (.int p4), .val (.int p5), .val (.int p6)] [(.int p6), (.ref a1)])) rfl rfl (hb hby d12_34)
  refine Gl.of st37 ?_
  have F37 : Fld Z h37 a1 "com/example/rulr/rulr/policy/SqlCondition$Membership" "joined" "I" (.int p6) := fc32.same W37
  have ec38 := ec31.wr W37
  have fc39 := fc33.other W37 (Or.inr (slot_ne (Or.inr (w62 hw)) (Or.inr (w72 hw)) (by decide) (t := (.object "java/lang/String")) (t' := .int) (by decide) (by decide)))
  have fc40 := fc34.other W37 (Or.inr (slot_ne (Or.inr (w64 hw)) (Or.inr (w72 hw)) (by decide) (t := (.object "java/lang/String")) (t' := .int) (by decide) (by decide)))
  have fc41 := fc35.other W37 (Or.inr (slot_ne (Or.inr (w66 hw)) (Or.inr (w72 hw)) (by decide) (t := (.object "com/example/rulr/rulr/policy/SqlCondition$Span")) (t' := .int) (by decide) (by decide)))
  have fc42 := fc36.other W37 (Or.inr (slot_ne (Or.inr (w68 hw)) (Or.inr (w72 hw)) (by decide) (t := .int) (t' := .int) (by decide) (by decide)))
  have fc43 := F30.other W37 (Or.inr (slot_ne (Or.inr (w70 hw)) (Or.inr (w72 hw)) (by decide) (t := .boolean) (t' := .int) (by decide) (by decide)))
  have N37 := Fr.snoc X37 N30 Ga1
  have O37 := O30.wr W37 Ga1
  have K37 := K30.wr W37 (Or.inl (List.mem_of_getElem? (i := 0) rfl))
  show Gl p e below _ (T37.setTop (mkF m 37 #[.val (.ref a1), .val (.ref x1), .val (.ref x2), .val .null, .val (.int p4), .val (.int p5), .val (.int p6)] []))
  exact Gl.ret0 X37 hx hlk hret (hb hby d12_37) e37 (⟨rfl, N37, K37, fc40, fc42⟩) (by decide) (by decide)
theorem ef_8 (m : MethodId) (x0 : Int32) (x1 : Int32) (x2 : Int32) (x3 : Value) (hx3 : x3.isRef = true) : entryFrame m #[(.int x0), (.int x1), (.int x2), x3] 4 = mkF m 0 #[.val (.int x0), .val (.int x1), .val (.int x2), .val x3] [] := by rcases ref_cases hx3 with rfl | ⟨_, rfl⟩ <;> (first | (simp [entryFrame, mkF, argsToLocals, Value.category, maxLocals]; done) | rfl)
theorem pn_5 : plainName "jdk/internal/util/Preconditions" = true := by first | (simp [plainName, overriddenIn]; done) | decide +kernel
theorem d20_0 : decode jdk_41_method_12_code 0 = .ok (.iload_n 0, 1) := by decide +kernel
theorem d20_1 : decode jdk_41_method_12_code 1 = .ok (.ifCond .lt 13, 3) := by decide +kernel
theorem d20_4 : decode jdk_41_method_12_code 4 = .ok (.iload_n 0, 1) := by decide +kernel
theorem d20_5 : decode jdk_41_method_12_code 5 = .ok (.iload_n 1, 1) := by decide +kernel
theorem d20_6 : decode jdk_41_method_12_code 6 = .ok (.if_icmp .gt 8, 3) := by decide +kernel
theorem d20_9 : decode jdk_41_method_12_code 9 = .ok (.iload_n 1, 1) := by decide +kernel
theorem d20_10 : decode jdk_41_method_12_code 10 = .ok (.iload_n 2, 1) := by decide +kernel
theorem d20_11 : decode jdk_41_method_12_code 11 = .ok (.if_icmp .le 11, 3) := by decide +kernel
theorem d20_22 : decode jdk_41_method_12_code 22 = .ok (.iload_n 0, 1) := by decide +kernel
theorem d20_23 : decode jdk_41_method_12_code 23 = .ok (.ireturn, 1) := by decide +kernel
theorem rmF (l : Launch) (Z : State) (a0 : Array Value) (hw : ∀ d ∈ tables_1, d.before a0 Z = true) (h0 : Heap) (p1 p2 p3 : Int32) (w4 : Value) (r4 : w4.isRef = true) (h1 : ¬ p1 < (0 : Int32)) (h2 : ¬ p2 < p1) (h3 : ¬ p3 < p2) : Con l Z (⟨"jdk/internal/util/Preconditions", "checkFromToIndex", "(IIILjava/util/function/BiFunction;)I"⟩ : MethodName) jdk_41_method_12_code 4 (some .int) [] ({ frames := 0, cells := 0, slots := 0, locals := 0 } : Room) 0 0 #[(.int p1), (.int p2), (.int p3), w4] h0 (Pur (fun v => v = some (.int p1)) h0) := by
  refine Con.intro (plainFor_of_name pn_5) ?_
  intro p e s m below meth c s₁ X0 hx hby hml hZ hown hnm hret hlk e0 hs0
  refine Gl.of (fun _ kq_ => castTop (ef_8 m p1 p2 p3 w4 r4) kq_) ?_
  show Gl p e below _ (s₁.setTop (mkF m 0 #[.val (.int p1), .val (.int p2), .val (.int p3), .val w4] []))
  refine Gl.of (fun _ kq_ => XS.iloadN X0.here hx rfl (hb hby d20_0) rfl kq_) ?_
  refine Gl.of (fun _ kq_ => XS.ifNo X0.here hx rfl (hb hby d20_1) rfl ((if0 _ _).trans (flt h1).1) kq_) ?_
  refine Gl.of (fun _ kq_ => XS.iloadN X0.here hx rfl (hb hby d20_4) rfl kq_) ?_
  refine Gl.of (fun _ kq_ => XS.iloadN X0.here hx rfl (hb hby d20_5) rfl kq_) ?_
  refine Gl.of (fun _ kq_ => XS.icmpNo X0.here hx rfl (hb hby d20_6) rfl (flt h2).2.2.1 kq_) ?_
  refine Gl.of (fun _ kq_ => XS.iloadN X0.here hx rfl (hb hby d20_9) rfl kq_) ?_
  show Gl p e below _ (s₁.setTop (mkF m 10 #[.val (.int p1), .val (.int p2), .val (.int p3), .val w4] [(.int p2)]))
  refine Gl.of (fun _ kq_ => XS.iloadN X0.here hx rfl (hb hby d20_10) rfl kq_) ?_
  refine Gl.of (fun _ kq_ => XS.icmpYes X0.here hx rfl (pc0 := 11) (pc' := 22) rfl (hb hby d20_11) rfl (flt h3).2.2.2 (by decide) (by decide) kq_) ?_
  refine Gl.of (fun _ kq_ => XS.iloadN X0.here hx rfl (hb hby d20_22) rfl kq_) ?_
  exact Gl.retI X0 hx hlk hret (hb hby d20_23) e0 (⟨rfl, rfl, rfl⟩) (by decide) (by decide)
theorem ef_9 (m : MethodId) (x0 : Int32) (x1 : Int32) (x2 : Int32) : entryFrame m #[(.int x0), (.int x1), (.int x2)] 3 = mkF m 0 #[.val (.int x0), .val (.int x1), .val (.int x2)] [] := by first | (simp [entryFrame, mkF, argsToLocals, Value.category, maxLocals]; done) | rfl
theorem d19_0 : decode jdk_42_method_158_code 0 = .ok (.iload_n 0, 1) := by decide +kernel
theorem d19_1 : decode jdk_42_method_158_code 1 = .ok (.iload_n 1, 1) := by decide +kernel
theorem d19_2 : decode jdk_42_method_158_code 2 = .ok (.iload_n 2, 1) := by decide +kernel
theorem d19_3 : decode jdk_42_method_158_code 3 = .ok (.getstatic 1053, 3) := by decide +kernel
theorem w105 {Z : State} {a0 : Array Value} (hw : ∀ d ∈ tables_1, d.before a0 Z = true) : (Jvm.Cond.fieldLink "java/lang/String" (1053 : Nat) "jdk/internal/util/Preconditions" "SIOOBE_FORMATTER" "Ljava/util/function/BiFunction;").before a0 Z = true := hw _ (List.mem_of_getElem? (i := 105) rfl)
theorem d19_6 : decode jdk_42_method_158_code 6 = .ok (.invokestatic 1062, 3) := by decide +kernel
theorem pd_4 : parseMethodDescriptor "(IIILjava/util/function/BiFunction;)I" = some ⟨[.int, .int, .int, (.object "java/util/function/BiFunction")], some .int⟩ := by decide +kernel
theorem w107 {Z : State} {a0 : Array Value} (hw : ∀ d ∈ tables_1, d.before a0 Z = true) : (Jvm.Cond.methodLink "java/lang/String" (1062 : Nat) ({ cls := "jdk/internal/util/Preconditions", name := "checkFromToIndex", desc := "(IIILjava/util/function/BiFunction;)I" } : Jvm.MethodName)).before a0 Z = true := hw _ (List.mem_of_getElem? (i := 107) rfl)
theorem w108 {Z : State} {a0 : Array Value} (hw : ∀ d ∈ tables_1, d.before a0 Z = true) : (Jvm.Cond.static ({ cls := "jdk/internal/util/Preconditions", name := "checkFromToIndex", desc := "(IIILjava/util/function/BiFunction;)I" } : Jvm.MethodName)).before a0 Z = true := hw _ (List.mem_of_getElem? (i := 108) rfl)
theorem w106 {Z : State} {a0 : Array Value} (hw : ∀ d ∈ tables_1, d.before a0 Z = true) : (Jvm.Cond.initialized "jdk/internal/util/Preconditions").before a0 Z = true := hw _ (List.mem_of_getElem? (i := 106) rfl)
theorem w109 {Z : State} {a0 : Array Value} (hw : ∀ d ∈ tables_1, d.before a0 Z = true) : (Jvm.Cond.code ({ cls := "jdk/internal/util/Preconditions", name := "checkFromToIndex", desc := "(IIILjava/util/function/BiFunction;)I" } : Jvm.MethodName) jdk_41_method_12_code (4 : Nat) (Option.some Jvm.ClassFile.FieldType.int)).before a0 Z = true := hw _ (List.mem_of_getElem? (i := 109) rfl)
theorem d19_9 : decode jdk_42_method_158_code 9 = .ok (.pop, 1) := by decide +kernel
theorem d19_10 : decode jdk_42_method_158_code 10 = .ok (.return_, 1) := by decide +kernel
theorem rmG (l : Launch) (Z : State) (a0 : Array Value) (hw : ∀ d ∈ tables_1, d.before a0 Z = true) (h0 : Heap) (p1 p2 p3 : Int32) (fm : Value) (n0 : Nat) (SF : Sta Z Z.heap "jdk/internal/util/Preconditions" "SIOOBE_FORMATTER" "Ljava/util/function/BiFunction;" fm) (rf : fm.isRef = true) (h1 : ¬ p1 < (0 : Int32)) (h2 : ¬ p2 < p1) (h3 : ¬ p3 < p2) (O0 : Old Z n0 h0) : Con l Z (⟨"java/lang/String", "checkBoundsBeginEnd", "(III)V"⟩ : MethodName) jdk_42_method_158_code 3 none [] ({ frames := 1, cells := 0, slots := 0, locals := 15 } : Room) 0 0 #[(.int p1), (.int p2), (.int p3)] h0 (Pur (fun v => v = none) h0) := by
  refine Con.intro (plainFor_of_name pn_2) ?_
  intro p e s m below meth c s₁ X0 hx hby hml hZ hown hnm hret hlk e0 hs0
  refine Gl.of (fun _ kq_ => castTop (ef_9 m p1 p2 p3) kq_) ?_
  show Gl p e below _ (s₁.setTop (mkF m 0 #[.val (.int p1), .val (.int p2), .val (.int p3)] []))
  refine Gl.of (fun _ kq_ => XS.iloadN X0.here hx rfl (hb hby d19_0) rfl kq_) ?_
  refine Gl.of (fun _ kq_ => XS.iloadN X0.here hx rfl (hb hby d19_1) rfl kq_) ?_
  refine Gl.of (fun _ kq_ => XS.iloadN X0.here hx rfl (hb hby d19_2) rfl kq_) ?_
  obtain ⟨T1, X1, e1, st1⟩ := getS2 X0 hx hZ hown (host := "") (Or.inl (w105 hw)) Via.refl e0 (SF.ext O0.2) (g := (mkF m 3 #[.val (.int p1), .val (.int p2), .val (.int p3)] [(.int p3), (.int p2), (.int p1)])) rfl (hb hby d19_3)
  refine Gl.of st1 ?_
  show Gl p e below _ (T1.setTop (mkF m 6 #[.val (.int p1), .val (.int p2), .val (.int p3)] [fm, (.int p3), (.int p2), (.int p1)]))
  refine Gl.callS0 X1 hx hZ (y := (⟨"jdk/internal/util/Preconditions", "checkFromToIndex", "(IIILjava/util/function/BiFunction;)I"⟩ : MethodName)) hown (w107 hw) (w108 hw) (w106 hw) (w109 hw) (desc_ne (by decide)) (argsL := [(.int p1), (.int p2), (.int p3), fm]) (rest := []) (rmF l Z a0 hw _ p1 p2 p3 fm rf h1 h2 h3) 0 (by decide) (by decide) e1 (by rw [hml]; rfl) pd_4 rfl rfl (Nat.le_of_eq rfl) (hb hby d19_6) (by decide) (by decide) ?_
  intro v2 T2 X2 e2 hv2
  subst hv2
  show Gl p e below _ (T2.setTop (mkF m 9 #[.val (.int p1), .val (.int p2), .val (.int p3)] [(.int p1)]))
  refine Gl.of (fun _ kq_ => XS.pop X2.here hx rfl (hb hby d19_9) rfl rfl kq_) ?_
  exact Gl.ret0 X2 hx hlk hret (hb hby d19_10) e2 (⟨rfl, rfl, rfl⟩) (by decide) (by decide)
theorem ef_10 (m : MethodId) (x0 : Addr) : entryFrame m #[(.ref x0)] 1 = mkF m 0 #[.val (.ref x0)] [] := by first | (simp [entryFrame, mkF, argsToLocals, Value.category, maxLocals]; done) | rfl
theorem d21_0 : decode jdk_42_method_154_code 0 = .ok (.getstatic 38, 3) := by decide +kernel
theorem d21_3 : decode jdk_42_method_154_code 3 = .ok (.ifCond .eq 14, 3) := by decide +kernel
theorem d21_6 : decode jdk_42_method_154_code 6 = .ok (.aload_n 0, 1) := by decide +kernel
theorem d21_7 : decode jdk_42_method_154_code 7 = .ok (.getfield 15, 3) := by decide +kernel
theorem d21_10 : decode jdk_42_method_154_code 10 = .ok (.ifCond .ne 7, 3) := by decide +kernel
theorem d21_13 : decode jdk_42_method_154_code 13 = .ok (.iconst 1, 1) := by decide +kernel
theorem d21_14 : decode jdk_42_method_154_code 14 = .ok (.goto 4, 3) := by decide +kernel
theorem d21_18 : decode jdk_42_method_154_code 18 = .ok (.ireturn, 1) := by decide +kernel
theorem rmL (l : Launch) (Z : State) (a0 : Array Value) (hw : ∀ d ∈ tables_1, d.before a0 Z = true) (h0 : Heap) (a1 : Addr) (cz : Int32) (n0 : Nat) (C1 : Fld Z h0 a1 "java/lang/String" "coder" "B" (.int 0)) (SC : Sta Z Z.heap "java/lang/String" "COMPACT_STRINGS" "Z" (.int cz)) (hcz : ¬ cz = 0) (O0 : Old Z n0 h0) : Con l Z (⟨"java/lang/String", "isLatin1", "()Z"⟩ : MethodName) jdk_42_method_154_code 1 (some .boolean) [] ({ frames := 0, cells := 0, slots := 0, locals := 0 } : Room) 0 0 #[(.ref a1)] h0 (Pur (fun v => v = some (.int 1)) h0) := by
  refine Con.intro (plainFor_of_name pn_2) ?_
  intro p e s m below meth c s₁ X0 hx hby hml hZ hown hnm hret hlk e0 hs0
  refine Gl.of (fun _ kq_ => castTop (ef_10 m a1) kq_) ?_
  show Gl p e below _ (s₁.setTop (mkF m 0 #[.val (.ref a1)] []))
  obtain ⟨T1, X1, e1, st1⟩ := getS2 X0 hx hZ hown (host := "") (Or.inl (w19 hw)) Via.refl e0 (SC.ext O0.2) (g := (mkF m 0 #[.val (.ref a1)] [])) rfl (hb hby d21_0)
  refine Gl.of st1 ?_
  show Gl p e below _ (T1.setTop (mkF m 3 #[.val (.ref a1)] [(.int cz)]))
  refine Gl.of (fun _ kq_ => XS.ifNo X1.here hx rfl (hb hby d21_3) rfl ((if0 _ _).trans (feq hcz).1) kq_) ?_
  refine Gl.of (fun _ kq_ => XS.aloadN X1.here hx rfl (hb hby d21_6) rfl rfl kq_) ?_
  obtain ⟨T2, X2, e2, st2⟩ := getF X1 hx hZ hown (host := "") (Or.inl (w31 hw)) Via.refl e1 C1 (g := (mkF m 7 #[.val (.ref a1)] [(.ref a1)])) rfl rfl (hb hby d21_7)
  refine Gl.of st2 ?_
  show Gl p e below _ (T2.setTop (mkF m 10 #[.val (.ref a1)] [(.int (0 : Int32))]))
  refine Gl.of (fun _ kq_ => XS.ifNo X2.here hx rfl (hb hby d21_10) rfl ((if0 _ _).trans (teq (by decide : (0 : Int32) = (0 : Int32))).2) kq_) ?_
  refine Gl.of (fun _ kq_ => XS.iconst X2.here hx rfl (hb hby d21_13) kq_) ?_
  refine Gl.of (fun _ kq_ => XS.goto X2.here hx rfl (pc0 := 14) (pc' := 18) rfl (hb hby d21_14) (by decide) (by decide) kq_) ?_
  exact Gl.retN X2 hx hlk hret (by simp) (hb hby d21_18) e2 (⟨rfl, rfl, rfl⟩) (by decide) (by decide)
theorem ef_11 (m : MethodId) (x0 : Addr) (x1 : Int32) (x2 : Int32) : entryFrame m #[(.ref x0), (.int x1), (.int x2)] 3 = mkF m 0 #[.val (.ref x0), .val (.int x1), .val (.int x2)] [] := by first | (simp [entryFrame, mkF, argsToLocals, Value.category, maxLocals]; done) | rfl
theorem d22_0 : decode jdk_43_method_47_code 0 = .ok (.iload_n 2, 1) := by decide +kernel
theorem d22_1 : decode jdk_43_method_47_code 1 = .ok (.ifCond .ne 6, 3) := by decide +kernel
theorem d22_7 : decode jdk_43_method_47_code 7 = .ok (.new 1, 3) := by decide +kernel
theorem w118 {Z : State} {a0 : Array Value} (hw : ∀ d ∈ tables_1, d.before a0 Z = true) : (Jvm.Cond.classLink "java/lang/StringLatin1" (1 : Nat) "java/lang/String").before a0 Z = true := hw _ (List.mem_of_getElem? (i := 118) rfl)
theorem d22_10 : decode jdk_43_method_47_code 10 = .ok (.dup, 1) := by decide +kernel
theorem d22_11 : decode jdk_43_method_47_code 11 = .ok (.aload_n 0, 1) := by decide +kernel
theorem d22_12 : decode jdk_43_method_47_code 12 = .ok (.iload_n 1, 1) := by decide +kernel
theorem d22_13 : decode jdk_43_method_47_code 13 = .ok (.iload_n 1, 1) := by decide +kernel
theorem d22_14 : decode jdk_43_method_47_code 14 = .ok (.iload_n 2, 1) := by decide +kernel
theorem d22_15 : decode jdk_43_method_47_code 15 = .ok (.iadd, 1) := by decide +kernel
theorem d22_16 : decode jdk_43_method_47_code 16 = .ok (.invokestatic 232, 3) := by decide +kernel
theorem w119 {Z : State} {a0 : Array Value} (hw : ∀ d ∈ tables_1, d.before a0 Z = true) : (Jvm.Cond.methodLink "java/lang/StringLatin1" (232 : Nat) ({ cls := "java/util/Arrays", name := "copyOfRange", desc := "([BII)[B" } : Jvm.MethodName)).before a0 Z = true := hw _ (List.mem_of_getElem? (i := 119) rfl)
theorem w120 {Z : State} {a0 : Array Value} (hw : ∀ d ∈ tables_1, d.before a0 Z = true) : (Jvm.Cond.static ({ cls := "java/util/Arrays", name := "copyOfRange", desc := "([BII)[B" } : Jvm.MethodName)).before a0 Z = true := hw _ (List.mem_of_getElem? (i := 120) rfl)
theorem w121 {Z : State} {a0 : Array Value} (hw : ∀ d ∈ tables_1, d.before a0 Z = true) : (Jvm.Cond.initialized "java/util/Arrays").before a0 Z = true := hw _ (List.mem_of_getElem? (i := 121) rfl)
theorem w122 {Z : State} {a0 : Array Value} (hw : ∀ d ∈ tables_1, d.before a0 Z = true) : (Jvm.Cond.code ({ cls := "java/util/Arrays", name := "copyOfRange", desc := "([BII)[B" } : Jvm.MethodName) jdk_65_method_132_code (3 : Nat) (Option.some (Jvm.ClassFile.FieldType.array Jvm.ClassFile.FieldType.byte))).before a0 Z = true := hw _ (List.mem_of_getElem? (i := 122) rfl)
theorem d22_19 : decode jdk_43_method_47_code 19 = .ok (.iconst 0, 1) := by decide +kernel
theorem d22_20 : decode jdk_43_method_47_code 20 = .ok (.invokespecial 112, 3) := by decide +kernel
theorem w137 {Z : State} {a0 : Array Value} (hw : ∀ d ∈ tables_1, d.before a0 Z = true) : (Jvm.Cond.methodLink "java/lang/StringLatin1" (112 : Nat) ({ cls := "java/lang/String", name := "<init>", desc := "([BB)V" } : Jvm.MethodName)).before a0 Z = true := hw _ (List.mem_of_getElem? (i := 137) rfl)
theorem d22_23 : decode jdk_43_method_47_code 23 = .ok (.areturn, 1) := by decide +kernel
theorem rmN0 (l : Launch) (Z : State) (a0 : Array Value) (hw : ∀ d ∈ tables_1, d.before a0 Z = true) (h0 : Heap) (t1 : Addr) (kb1 : ClassId) (c0 c1 c2 c3 c4 c5 c6 c7 c8 c9 c10 c11 : Int32) (n0 : Nat) (V1 : Arv Z h0 t1 kb1 .byte (Int32.ofNat 12) ((([c0, c1, c2, c3, c4, c5, c6, c7, c8, c9, c10, c11] : List Int32).map (fun c => c.toInt8.toInt32)).map Value.int) (.int 0)) (hfb : Z.vm.findClass "[B" = some kb1) (hr : ∀ c ∈ ([c0, c1, c2, c3, c4, c5, c6, c7, c8, c9, c10, c11] : List Int32), ¬ c < 0 ∧ ¬ (255 : Int32) < c) (O0 : Old Z n0 h0) : Con l Z (⟨"java/lang/StringLatin1", "newString", "([BII)Ljava/lang/String;"⟩ : MethodName) jdk_43_method_47_code 3 (some (.object "java/lang/String")) [] ({ frames := 4, cells := 2, slots := 16, locals := 98 } : Room) 2 16 #[(.ref t1), (.int (7 : Int32)), (.int (5 : Int32))] h0 (fun v h L => ∃ r t kb, v = some (.ref r) ∧ Strg Z h r t kb [c7, c8, c9, c10, c11] ∧ Keep h0 h [] ∧ Fr n0 L) := by
  refine Con.intro (plainFor_of_name pn_1) ?_
  intro p e s m below meth c s₁ X0 hx hby hml hZ hown hnm hret hlk e0 hs0
  refine Gl.of (fun _ kq_ => castTop (ef_11 m t1 (7 : Int32) (5 : Int32)) kq_) ?_
  have K0 := Keep.refl h0 []
  show Gl p e below _ (s₁.setTop (mkF m 0 #[.val (.ref t1), .val (.int (7 : Int32)), .val (.int (5 : Int32))] []))
  refine Gl.of (fun _ kq_ => XS.iloadN X0.here hx rfl (hb hby d22_0) rfl kq_) ?_
  refine Gl.of (fun _ kq_ => XS.ifYes X0.here hx rfl (pc0 := 1) (pc' := 7) rfl (hb hby d22_1) rfl ((if0 _ _).trans (feq (by decide : ¬ ((5 : Int32) = (0 : Int32)))).2) (by decide) (by decide) kq_) ?_
  obtain ⟨T1, h1, X1, e1, E1, A1, D1, -, st1⟩ := newO X0 hx hZ hown (w118 hw) (w7 hw) (w8 hw) e0 (g := (mkF m 7 #[.val (.ref t1), .val (.int (7 : Int32)), .val (.int (5 : Int32))] [])) rfl (hb hby d22_7) (by decide) (by decide)
  obtain ⟨b1, g1⟩ : ∃ z, z = h0.size := ⟨_, rfl⟩
  rw [← g1] at A1 D1 st1
  refine Gl.of st1 ?_
  have Gb1 : n0 ≤ b1 := Nat.le_trans (O0.1 ▸ O0.2.1) (Nat.le_of_eq g1.symm)
  have Jb1 : h0.size ≤ b1 := Nat.le_trans K0.1 (Nat.le_of_eq g1.symm)
  have ne_t1_b1 : t1 ≠ b1 := Nat.ne_of_lt (Nat.lt_of_lt_of_le V1.lt (Nat.le_of_eq g1.symm))
  have vc2 := V1.ext E1
  have O1 := O0.ext E1
  have K1 := K0.ext E1
  have F1_coder : Fld Z h1 b1 "java/lang/String" "coder" "B" (.int (0 : Int32)) := D1 (Or.inr (w32 hw)) (ty := .byte) (by decide)
  have F1_value : Fld Z h1 b1 "java/lang/String" "value" "[B" .null := D1 (Or.inr (w34 hw)) (ty := (.array .byte)) (by decide)
  show Gl p e below _ (T1.setTop (mkF m 10 #[.val (.ref t1), .val (.int (7 : Int32)), .val (.int (5 : Int32))] [(.ref b1)]))
  refine Gl.of (fun _ kq_ => XS.dup X1.here hx rfl (hb hby d22_10) rfl rfl kq_) ?_
  refine Gl.of (fun _ kq_ => XS.aloadN X1.here hx rfl (hb hby d22_11) rfl rfl kq_) ?_
  refine Gl.of (fun _ kq_ => XS.iloadN X1.here hx rfl (hb hby d22_12) rfl kq_) ?_
  refine Gl.of (fun _ kq_ => XS.iloadN X1.here hx rfl (hb hby d22_13) rfl kq_) ?_
  refine Gl.of (fun _ kq_ => XS.iloadN X1.here hx rfl (hb hby d22_14) rfl kq_) ?_
  refine Gl.of (fun _ kq_ => XS.iadd X1.here hx rfl (hb hby d22_15) rfl kq_) ?_
  show Gl p e below _ (T1.setTop (mkF m 16 #[.val (.ref t1), .val (.int (7 : Int32)), .val (.int (5 : Int32))] [(.int (12 : Int32)), (.int (7 : Int32)), (.ref t1), (.ref b1), (.ref b1)]))
  refine Gl.callCor X1 hx hZ hown (w119 hw) (w120 hw) (w121 hw) (w122 hw) (own_cor hw) vc2 hfb (fr := 7) (to := 12) (cap := 12) rfl (by decide) (by decide) (by decide) (by decide) (by decide) (vs' := (([c7, c8, c9, c10, c11] : List Int32).map (fun c => c.toInt8.toInt32)).map Value.int) rfl (n := 5) rfl (by decide) (W := 2) (rest := [(.ref b1), (.ref b1)]) (by decide) (by decide) (by decide) (by decide) e1 rfl rfl (by rw [hml]; rfl) rfl (Nat.le_of_eq rfl) (hb hby d22_16) ?_
  intro r3 T3 X3 E3 Gr3 Vr3
  have ne_t1_r3 : t1 ≠ r3 := Nat.ne_of_lt (Nat.lt_of_lt_of_le vc2.lt Gr3)
  have ne_b1_r3 : b1 ≠ r3 := Nat.ne_of_lt (Nat.lt_of_lt_of_le A1.lt Gr3)
  have vc4 := vc2.ext E3
  have ec5 := A1.ext E3
  have fc6 := F1_coder.ext E3
  have fc7 := F1_value.ext E3
  have O3 := O1.ext E3
  have K3 := K1.ext E3
  show Gl p e below _ (T3.setTop (mkF m 19 #[.val (.ref t1), .val (.int (7 : Int32)), .val (.int (5 : Int32))] [(.ref r3), (.ref b1), (.ref b1)]))
  refine Gl.of (fun _ kq_ => XS.iconst X3.here hx rfl (hb hby d22_19) kq_) ?_
  refine Gl.callI X3 hx hZ (y := (⟨"java/lang/String", "<init>", "([BB)V"⟩ : MethodName)) rfl hown (w137 hw) (w50 hw) (w8 hw) (w51 hw) (desc_ne (by decide)) (rm := { frames := 1, cells := 0, slots := 0, locals := 13 }) (b := b1) (argsL := [(.ref r3), (.int (0 : Int32))]) (rest := [(.ref b1)]) (rmB l Z a0 hw _ b1 r3 n0 ec5 fc7 fc6 Gb1 O3) 1 (by decide) (by decide) (by decide) (by decide) rfl (by rw [hml]; rfl) pd_2 rfl rfl (Nat.le_of_eq rfl) (hb hby d22_20) ?_
  intro v8 T8 L8 X8 hQ8
  obtain ⟨rfl, Nq8, Kq8, Fv8, Fc8⟩ := hQ8
  have N8 := Fr.app (Fr.nil n0) Nq8
  have vc9 := vc4.keep Kq8 (fun q => ne_t1_b1 (List.mem_singleton.mp q))
  have ec10 := ec5.keep Kq8
  have vc11 := Vr3.keep Kq8 (fun q => ne_b1_r3.symm (List.mem_singleton.mp q))
  have O8 := O3.keep Kq8 (allS Gb1 all0)
  have K8 := K3.trans Kq8 (by intro x hx'; cases List.mem_singleton.mp hx'; exact Or.inr Jb1)
  show Gl p e below _ (T8.setTop (mkF m 23 #[.val (.ref t1), .val (.int (7 : Int32)), .val (.int (5 : Int32))] [(.ref b1)]))
  exact Gl.retR X8 hx hlk hret rfl rfl (hb hby d22_23) rfl (⟨_, _, _, rfl, ⟨ec10, Fv8, Fc8, vc11, (fun c hc => hr c (by simp at hc ⊢; grind)), Nat.le_of_ble_eq_true rfl⟩, K8, N8⟩) (by decide) (by decide)
theorem ef_12 (m : MethodId) (x0 : Addr) (x1 : Int32) (x2 : Int32) : entryFrame m #[(.ref x0), (.int x1), (.int x2)] 5 = mkF m 0 #[.val (.ref x0), .val (.int x1), .val (.int x2), .unset, .unset] [] := by first | (simp [entryFrame, mkF, argsToLocals, Value.category, maxLocals]; done) | rfl
theorem d18_0 : decode jdk_42_method_92_code 0 = .ok (.aload_n 0, 1) := by decide +kernel
theorem d18_1 : decode jdk_42_method_92_code 1 = .ok (.invokevirtual 505, 3) := by decide +kernel
theorem w96 {Z : State} {a0 : Array Value} (hw : ∀ d ∈ tables_1, d.before a0 Z = true) : (Jvm.Cond.methodLink "java/lang/String" (505 : Nat) ({ cls := "java/lang/String", name := "length", desc := "()I" } : Jvm.MethodName)).before a0 Z = true := hw _ (List.mem_of_getElem? (i := 96) rfl)
theorem w79 {Z : State} {a0 : Array Value} (hw : ∀ d ∈ tables_1, d.before a0 Z = true) : (Jvm.Cond.declares ({ cls := "java/lang/String", name := "length", desc := "()I" } : Jvm.MethodName)).before a0 Z = true := hw _ (List.mem_of_getElem? (i := 79) rfl)
theorem w81 {Z : State} {a0 : Array Value} (hw : ∀ d ∈ tables_1, d.before a0 Z = true) : (Jvm.Cond.selects "java/lang/String" ({ cls := "java/lang/String", name := "length", desc := "()I" } : Jvm.MethodName) ({ cls := "java/lang/String", name := "length", desc := "()I" } : Jvm.MethodName)).before a0 Z = true := hw _ (List.mem_of_getElem? (i := 81) rfl)
theorem w80 {Z : State} {a0 : Array Value} (hw : ∀ d ∈ tables_1, d.before a0 Z = true) : (Jvm.Cond.instanceMethod ({ cls := "java/lang/String", name := "length", desc := "()I" } : Jvm.MethodName)).before a0 Z = true := hw _ (List.mem_of_getElem? (i := 80) rfl)
theorem pd_5 : parseMethodDescriptor "()I" = some ⟨[], some .int⟩ := by decide +kernel
theorem d18_4 : decode jdk_42_method_92_code 4 = .ok (.istore_n 3, 1) := by decide +kernel
theorem d18_5 : decode jdk_42_method_92_code 5 = .ok (.iload_n 1, 1) := by decide +kernel
theorem d18_6 : decode jdk_42_method_92_code 6 = .ok (.iload_n 2, 1) := by decide +kernel
theorem d18_7 : decode jdk_42_method_92_code 7 = .ok (.iload_n 3, 1) := by decide +kernel
theorem d18_8 : decode jdk_42_method_92_code 8 = .ok (.invokestatic 521, 3) := by decide +kernel
theorem pd_6 : parseMethodDescriptor "(III)V" = some ⟨[.int, .int, .int], none⟩ := by decide +kernel
theorem w102 {Z : State} {a0 : Array Value} (hw : ∀ d ∈ tables_1, d.before a0 Z = true) : (Jvm.Cond.methodLink "java/lang/String" (521 : Nat) ({ cls := "java/lang/String", name := "checkBoundsBeginEnd", desc := "(III)V" } : Jvm.MethodName)).before a0 Z = true := hw _ (List.mem_of_getElem? (i := 102) rfl)
theorem w103 {Z : State} {a0 : Array Value} (hw : ∀ d ∈ tables_1, d.before a0 Z = true) : (Jvm.Cond.static ({ cls := "java/lang/String", name := "checkBoundsBeginEnd", desc := "(III)V" } : Jvm.MethodName)).before a0 Z = true := hw _ (List.mem_of_getElem? (i := 103) rfl)
theorem w104 {Z : State} {a0 : Array Value} (hw : ∀ d ∈ tables_1, d.before a0 Z = true) : (Jvm.Cond.code ({ cls := "java/lang/String", name := "checkBoundsBeginEnd", desc := "(III)V" } : Jvm.MethodName) jdk_42_method_158_code (3 : Nat) (Option.none : Option Jvm.ClassFile.FieldType)).before a0 Z = true := hw _ (List.mem_of_getElem? (i := 104) rfl)
theorem d18_11 : decode jdk_42_method_92_code 11 = .ok (.iload_n 1, 1) := by decide +kernel
theorem d18_12 : decode jdk_42_method_92_code 12 = .ok (.ifCond .ne 10, 3) := by decide +kernel
theorem d18_22 : decode jdk_42_method_92_code 22 = .ok (.iload_n 2, 1) := by decide +kernel
theorem d18_23 : decode jdk_42_method_92_code 23 = .ok (.iload_n 1, 1) := by decide +kernel
theorem d18_24 : decode jdk_42_method_92_code 24 = .ok (.isub, 1) := by decide +kernel
theorem d18_25 : decode jdk_42_method_92_code 25 = .ok (.istore 4, 2) := by decide +kernel
theorem d18_27 : decode jdk_42_method_92_code 27 = .ok (.aload_n 0, 1) := by decide +kernel
theorem d18_28 : decode jdk_42_method_92_code 28 = .ok (.invokevirtual 492, 3) := by decide +kernel
theorem pd_7 : parseMethodDescriptor "()Z" = some ⟨[], some .boolean⟩ := by decide +kernel
theorem w113 {Z : State} {a0 : Array Value} (hw : ∀ d ∈ tables_1, d.before a0 Z = true) : (Jvm.Cond.selects "java/lang/String" ({ cls := "java/lang/String", name := "isLatin1", desc := "()Z" } : Jvm.MethodName) ({ cls := "java/lang/String", name := "isLatin1", desc := "()Z" } : Jvm.MethodName)).before a0 Z = true := hw _ (List.mem_of_getElem? (i := 113) rfl)
theorem w110 {Z : State} {a0 : Array Value} (hw : ∀ d ∈ tables_1, d.before a0 Z = true) : (Jvm.Cond.methodLink "java/lang/String" (492 : Nat) ({ cls := "java/lang/String", name := "isLatin1", desc := "()Z" } : Jvm.MethodName)).before a0 Z = true := hw _ (List.mem_of_getElem? (i := 110) rfl)
theorem w111 {Z : State} {a0 : Array Value} (hw : ∀ d ∈ tables_1, d.before a0 Z = true) : (Jvm.Cond.declares ({ cls := "java/lang/String", name := "isLatin1", desc := "()Z" } : Jvm.MethodName)).before a0 Z = true := hw _ (List.mem_of_getElem? (i := 111) rfl)
theorem w112 {Z : State} {a0 : Array Value} (hw : ∀ d ∈ tables_1, d.before a0 Z = true) : (Jvm.Cond.instanceMethod ({ cls := "java/lang/String", name := "isLatin1", desc := "()Z" } : Jvm.MethodName)).before a0 Z = true := hw _ (List.mem_of_getElem? (i := 112) rfl)
theorem w114 {Z : State} {a0 : Array Value} (hw : ∀ d ∈ tables_1, d.before a0 Z = true) : (Jvm.Cond.code ({ cls := "java/lang/String", name := "isLatin1", desc := "()Z" } : Jvm.MethodName) jdk_42_method_154_code (1 : Nat) (Option.some Jvm.ClassFile.FieldType.boolean)).before a0 Z = true := hw _ (List.mem_of_getElem? (i := 114) rfl)
theorem d18_31 : decode jdk_42_method_92_code 31 = .ok (.ifCond .eq 16, 3) := by decide +kernel
theorem d18_34 : decode jdk_42_method_92_code 34 = .ok (.aload_n 0, 1) := by decide +kernel
theorem d18_35 : decode jdk_42_method_92_code 35 = .ok (.getfield 9, 3) := by decide +kernel
theorem d18_38 : decode jdk_42_method_92_code 38 = .ok (.iload_n 1, 1) := by decide +kernel
theorem d18_39 : decode jdk_42_method_92_code 39 = .ok (.iload 4, 2) := by decide +kernel
theorem d18_41 : decode jdk_42_method_92_code 41 = .ok (.invokestatic 685, 3) := by decide +kernel
theorem pd_8 : parseMethodDescriptor "([BII)Ljava/lang/String;" = some ⟨[(.array .byte), .int, .int], some (.object "java/lang/String")⟩ := by decide +kernel
theorem w115 {Z : State} {a0 : Array Value} (hw : ∀ d ∈ tables_1, d.before a0 Z = true) : (Jvm.Cond.methodLink "java/lang/String" (685 : Nat) ({ cls := "java/lang/StringLatin1", name := "newString", desc := "([BII)Ljava/lang/String;" } : Jvm.MethodName)).before a0 Z = true := hw _ (List.mem_of_getElem? (i := 115) rfl)
theorem w116 {Z : State} {a0 : Array Value} (hw : ∀ d ∈ tables_1, d.before a0 Z = true) : (Jvm.Cond.static ({ cls := "java/lang/StringLatin1", name := "newString", desc := "([BII)Ljava/lang/String;" } : Jvm.MethodName)).before a0 Z = true := hw _ (List.mem_of_getElem? (i := 116) rfl)
theorem w117 {Z : State} {a0 : Array Value} (hw : ∀ d ∈ tables_1, d.before a0 Z = true) : (Jvm.Cond.code ({ cls := "java/lang/StringLatin1", name := "newString", desc := "([BII)Ljava/lang/String;" } : Jvm.MethodName) jdk_43_method_47_code (3 : Nat) (Option.some (Jvm.ClassFile.FieldType.object "java/lang/String"))).before a0 Z = true := hw _ (List.mem_of_getElem? (i := 117) rfl)
theorem d18_44 : decode jdk_42_method_92_code 44 = .ok (.goto 13, 3) := by decide +kernel
theorem d18_57 : decode jdk_42_method_92_code 57 = .ok (.areturn, 1) := by decide +kernel
theorem rmS0 (l : Launch) (Z : State) (a0 : Array Value) (hw : ∀ d ∈ tables_1, d.before a0 Z = true) (h0 : Heap) (x1 t1 : Addr) (kb1 : ClassId) (c0 c1 c2 c3 c4 c5 c6 c7 c8 c9 c10 c11 : Int32) (cz : Int32) (fm : Value) (n0 : Nat) (SN : Strg Z h0 x1 t1 kb1 [c0, c1, c2, c3, c4, c5, c6, c7, c8, c9, c10, c11]) (hfb : Z.vm.findClass "[B" = some kb1) (SC : Sta Z Z.heap "java/lang/String" "COMPACT_STRINGS" "Z" (.int cz)) (hcz : ¬ cz = 0) (SF : Sta Z Z.heap "jdk/internal/util/Preconditions" "SIOOBE_FORMATTER" "Ljava/util/function/BiFunction;" fm) (rf : fm.isRef = true) (O0 : Old Z n0 h0) : Con l Z (⟨"java/lang/String", "substring", "(II)Ljava/lang/String;"⟩ : MethodName) jdk_42_method_92_code 5 (some (.object "java/lang/String")) [] ({ frames := 5, cells := 2, slots := 16, locals := 113 } : Room) 2 16 #[(.ref x1), (.int (7 : Int32)), (.int (12 : Int32))] h0 (fun v h L => ∃ r t kb, v = some (.ref r) ∧ Strg Z h r t kb [c7, c8, c9, c10, c11] ∧ Keep h0 h [] ∧ Fr n0 L) := by
  refine Con.intro (plainFor_of_name pn_2) ?_
  intro p e s m below meth c s₁ X0 hx hby hml hZ hown hnm hret hlk e0 hs0
  refine Gl.of (fun _ kq_ => castTop (ef_12 m x1 (7 : Int32) (12 : Int32)) kq_) ?_
  have K0 := Keep.refl h0 []
  show Gl p e below _ (s₁.setTop (mkF m 0 #[.val (.ref x1), .val (.int (7 : Int32)), .val (.int (12 : Int32)), .unset, .unset] []))
  refine Gl.of (fun _ kq_ => XS.aloadN X0.here hx rfl (hb hby d18_0) rfl rfl kq_) ?_
  refine Gl.callVB X0 hx hZ (y := (⟨"java/lang/String", "length", "()I"⟩ : MethodName)) (z := (⟨"java/lang/String", "length", "()I"⟩ : MethodName)) hown (w96 hw) (w79 hw) (notFace_of_selects (args := #[]) (mvT hZ (w81 hw))) (w81 hw) (w80 hw) (desc_ne (by decide)) (W := 0) (fun v => v = some (.int (12 : Int32))) (b := x1) (argsL := []) (rest := []) SN.1 (StrChars.Road.lenW (W := 0) hZ (own_wln hw) (kI := 4) (w7 hw) SN.1 SN.2.1 SN.2.2.1 SN.2.2.2.1 SN.cod SN.up (SC.ext O0.2) hcz SN.2.2.2.2.2 (by decide) (by decide)) (by decide) (by decide) e0 (by rw [hml]; rfl) pd_5 rfl rfl (Nat.le_of_eq rfl) (hb hby d18_1) ?_
  intro v1 T1 X1 e1 hv1
  subst hv1
  show Gl p e below _ (T1.setTop (mkF m 4 #[.val (.ref x1), .val (.int (7 : Int32)), .val (.int (12 : Int32)), .unset, .unset] [(.int (12 : Int32))]))
  refine Gl.of (fun _ kq_ => XS.istoreN X1.here hx rfl (hb hby d18_4) rfl (l' := #[.val (.ref x1), .val (.int (7 : Int32)), .val (.int (12 : Int32)), .val (.int (12 : Int32)), .unset]) rfl kq_) ?_
  refine Gl.of (fun _ kq_ => XS.iloadN X1.here hx rfl (hb hby d18_5) rfl kq_) ?_
  refine Gl.of (fun _ kq_ => XS.iloadN X1.here hx rfl (hb hby d18_6) rfl kq_) ?_
  refine Gl.of (fun _ kq_ => XS.iloadN X1.here hx rfl (hb hby d18_7) rfl kq_) ?_
  refine Gl.callS0 X1 hx hZ (y := (⟨"java/lang/String", "checkBoundsBeginEnd", "(III)V"⟩ : MethodName)) hown (w102 hw) (w103 hw) (w8 hw) (w104 hw) (desc_ne (by decide)) (argsL := [(.int (7 : Int32)), (.int (12 : Int32)), (.int (12 : Int32))]) (rest := []) (rmG l Z a0 hw _ (7 : Int32) (12 : Int32) (12 : Int32) fm n0 SF rf (by decide) (by decide) (by decide) O0) 0 (by decide) (by decide) e1 (by rw [hml]; rfl) pd_6 rfl rfl (Nat.le_of_eq rfl) (hb hby d18_8) (by decide) (by decide) ?_
  intro v2 T2 X2 e2 hv2
  subst hv2
  show Gl p e below _ (T2.setTop (mkF m 11 #[.val (.ref x1), .val (.int (7 : Int32)), .val (.int (12 : Int32)), .val (.int (12 : Int32)), .unset] []))
  refine Gl.of (fun _ kq_ => XS.iloadN X2.here hx rfl (hb hby d18_11) rfl kq_) ?_
  refine Gl.of (fun _ kq_ => XS.ifYes X2.here hx rfl (pc0 := 12) (pc' := 22) rfl (hb hby d18_12) rfl ((if0 _ _).trans (feq (by decide : ¬ ((7 : Int32) = (0 : Int32)))).2) (by decide) (by decide) kq_) ?_
  refine Gl.of (fun _ kq_ => XS.iloadN X2.here hx rfl (hb hby d18_22) rfl kq_) ?_
  refine Gl.of (fun _ kq_ => XS.iloadN X2.here hx rfl (hb hby d18_23) rfl kq_) ?_
  refine Gl.of (fun _ kq_ => XS.isub X2.here hx rfl (hb hby d18_24) rfl kq_) ?_
  show Gl p e below _ (T2.setTop (mkF m 25 #[.val (.ref x1), .val (.int (7 : Int32)), .val (.int (12 : Int32)), .val (.int (12 : Int32)), .unset] [(.int (5 : Int32))]))
  refine Gl.of (fun _ kq_ => XS.istore X2.here hx rfl (hb hby d18_25) rfl (l' := #[.val (.ref x1), .val (.int (7 : Int32)), .val (.int (12 : Int32)), .val (.int (12 : Int32)), .val (.int (5 : Int32))]) rfl kq_) ?_
  refine Gl.of (fun _ kq_ => XS.aloadN X2.here hx rfl (hb hby d18_27) rfl rfl kq_) ?_
  refine Gl.callV0 X2 hx hZ (y := (⟨"java/lang/String", "isLatin1", "()Z"⟩ : MethodName)) (z := (⟨"java/lang/String", "isLatin1", "()Z"⟩ : MethodName)) hown (w110 hw) (w111 hw) (notFace_of_selects (args := #[]) (mvT hZ (w113 hw))) (w113 hw) (w112 hw) (w114 hw) (w8 hw) (desc_ne (by decide)) (b := x1) (argsL := []) (rest := []) SN.1 (rmL l Z a0 hw _ x1 cz n0 SN.2.2.1 SC hcz O0) 0 (by decide) (by decide) e2 (by rw [hml]; rfl) pd_7 rfl rfl (Nat.le_of_eq rfl) (hb hby d18_28) (by decide) (by decide) ?_
  intro v3 T3 X3 e3 hv3
  subst hv3
  show Gl p e below _ (T3.setTop (mkF m 31 #[.val (.ref x1), .val (.int (7 : Int32)), .val (.int (12 : Int32)), .val (.int (12 : Int32)), .val (.int (5 : Int32))] [(.int (1 : Int32))]))
  refine Gl.of (fun _ kq_ => XS.ifNo X3.here hx rfl (hb hby d18_31) rfl ((if0 _ _).trans (feq (by decide : ¬ ((1 : Int32) = (0 : Int32)))).1) kq_) ?_
  refine Gl.of (fun _ kq_ => XS.aloadN X3.here hx rfl (hb hby d18_34) rfl rfl kq_) ?_
  obtain ⟨T4, X4, e4, st4⟩ := getF X3 hx hZ hown (host := "") (Or.inl (w33 hw)) Via.refl e3 SN.2.1 (g := (mkF m 35 #[.val (.ref x1), .val (.int (7 : Int32)), .val (.int (12 : Int32)), .val (.int (12 : Int32)), .val (.int (5 : Int32))] [(.ref x1)])) rfl rfl (hb hby d18_35)
  refine Gl.of st4 ?_
  show Gl p e below _ (T4.setTop (mkF m 38 #[.val (.ref x1), .val (.int (7 : Int32)), .val (.int (12 : Int32)), .val (.int (12 : Int32)), .val (.int (5 : Int32))] [(.ref t1)]))
  refine Gl.of (fun _ kq_ => XS.iloadN X4.here hx rfl (hb hby d18_38) rfl kq_) ?_
  refine Gl.of (fun _ kq_ => XS.iload X4.here hx rfl (hb hby d18_39) rfl kq_) ?_
  refine Gl.callS X4 hx hZ (y := (⟨"java/lang/StringLatin1", "newString", "([BII)Ljava/lang/String;"⟩ : MethodName)) hown (w115 hw) (w116 hw) (w43 hw) (w117 hw) (desc_ne (by decide)) (rm := { frames := 4, cells := 2, slots := 16, locals := 98 }) (argsL := [(.ref t1), (.int (7 : Int32)), (.int (5 : Int32))]) (rest := []) (rmN0 l Z a0 hw _ t1 kb1 c0 c1 c2 c3 c4 c5 c6 c7 c8 c9 c10 c11 n0 SN.2.2.2.1 hfb SN.2.2.2.2.1 O0) 0 (by decide) (by decide) (by decide) (by decide) e4 (by rw [hml]; rfl) pd_8 rfl rfl (Nat.le_of_eq rfl) (hb hby d18_41) ?_
  intro v5 T5 L5 X5 hQ5
  obtain ⟨r5, t5, kb5, rfl, SG5, Kq5, Nq5⟩ := hQ5
  have N5 := Fr.app (Fr.nil n0) Nq5
  have gc6 := SN.keep Kq5 (by simp) (by simp)
  have ec7 := SN.1.keep Kq5
  have fc8 := SN.2.1.keep Kq5 (by simp)
  have fc9 := SN.2.2.1.keep Kq5 (by simp)
  have O5 := O0.keep Kq5 all0
  have K5 := K0.trans Kq5 (by intro x hx'; exact nomatch hx')
  show Gl p e below _ (T5.setTop (mkF m 44 #[.val (.ref x1), .val (.int (7 : Int32)), .val (.int (12 : Int32)), .val (.int (12 : Int32)), .val (.int (5 : Int32))] [(.ref r5)]))
  refine Gl.of (fun _ kq_ => XS.goto X5.here hx rfl (pc0 := 44) (pc' := 57) rfl (hb hby d18_44) (by decide) (by decide) kq_) ?_
  exact Gl.retR X5 hx hlk hret rfl rfl (hb hby d18_57) rfl (⟨_, _, _, rfl, SG5, K5, N5⟩) (by decide) (by decide)
theorem ef_13 (m : MethodId) (x0 : Addr) (x1 : Int32) : entryFrame m #[(.ref x0), (.int x1)] 2 = mkF m 0 #[.val (.ref x0), .val (.int x1)] [] := by first | (simp [entryFrame, mkF, argsToLocals, Value.category, maxLocals]; done) | rfl
theorem d17_0 : decode jdk_42_method_91_code 0 = .ok (.aload_n 0, 1) := by decide +kernel
theorem d17_1 : decode jdk_42_method_91_code 1 = .ok (.iload_n 1, 1) := by decide +kernel
theorem d17_2 : decode jdk_42_method_91_code 2 = .ok (.aload_n 0, 1) := by decide +kernel
theorem d17_3 : decode jdk_42_method_91_code 3 = .ok (.invokevirtual 505, 3) := by decide +kernel
theorem d17_6 : decode jdk_42_method_91_code 6 = .ok (.invokevirtual 681, 3) := by decide +kernel
theorem pd_9 : parseMethodDescriptor "(II)Ljava/lang/String;" = some ⟨[.int, .int], some (.object "java/lang/String")⟩ := by decide +kernel
theorem w100 {Z : State} {a0 : Array Value} (hw : ∀ d ∈ tables_1, d.before a0 Z = true) : (Jvm.Cond.selects "java/lang/String" ({ cls := "java/lang/String", name := "substring", desc := "(II)Ljava/lang/String;" } : Jvm.MethodName) ({ cls := "java/lang/String", name := "substring", desc := "(II)Ljava/lang/String;" } : Jvm.MethodName)).before a0 Z = true := hw _ (List.mem_of_getElem? (i := 100) rfl)
theorem w97 {Z : State} {a0 : Array Value} (hw : ∀ d ∈ tables_1, d.before a0 Z = true) : (Jvm.Cond.methodLink "java/lang/String" (681 : Nat) ({ cls := "java/lang/String", name := "substring", desc := "(II)Ljava/lang/String;" } : Jvm.MethodName)).before a0 Z = true := hw _ (List.mem_of_getElem? (i := 97) rfl)
theorem w98 {Z : State} {a0 : Array Value} (hw : ∀ d ∈ tables_1, d.before a0 Z = true) : (Jvm.Cond.declares ({ cls := "java/lang/String", name := "substring", desc := "(II)Ljava/lang/String;" } : Jvm.MethodName)).before a0 Z = true := hw _ (List.mem_of_getElem? (i := 98) rfl)
theorem w99 {Z : State} {a0 : Array Value} (hw : ∀ d ∈ tables_1, d.before a0 Z = true) : (Jvm.Cond.instanceMethod ({ cls := "java/lang/String", name := "substring", desc := "(II)Ljava/lang/String;" } : Jvm.MethodName)).before a0 Z = true := hw _ (List.mem_of_getElem? (i := 99) rfl)
theorem w101 {Z : State} {a0 : Array Value} (hw : ∀ d ∈ tables_1, d.before a0 Z = true) : (Jvm.Cond.code ({ cls := "java/lang/String", name := "substring", desc := "(II)Ljava/lang/String;" } : Jvm.MethodName) jdk_42_method_92_code (5 : Nat) (Option.some (Jvm.ClassFile.FieldType.object "java/lang/String"))).before a0 Z = true := hw _ (List.mem_of_getElem? (i := 101) rfl)
theorem d17_9 : decode jdk_42_method_91_code 9 = .ok (.areturn, 1) := by decide +kernel
theorem rmU0 (l : Launch) (Z : State) (a0 : Array Value) (hw : ∀ d ∈ tables_1, d.before a0 Z = true) (h0 : Heap) (x1 t1 : Addr) (kb1 : ClassId) (c0 c1 c2 c3 c4 c5 c6 c7 c8 c9 c10 c11 : Int32) (cz : Int32) (fm : Value) (n0 : Nat) (SN : Strg Z h0 x1 t1 kb1 [c0, c1, c2, c3, c4, c5, c6, c7, c8, c9, c10, c11]) (hfb : Z.vm.findClass "[B" = some kb1) (SC : Sta Z Z.heap "java/lang/String" "COMPACT_STRINGS" "Z" (.int cz)) (hcz : ¬ cz = 0) (SF : Sta Z Z.heap "jdk/internal/util/Preconditions" "SIOOBE_FORMATTER" "Ljava/util/function/BiFunction;" fm) (rf : fm.isRef = true) (O0 : Old Z n0 h0) : Con l Z (⟨"java/lang/String", "substring", "(I)Ljava/lang/String;"⟩ : MethodName) jdk_42_method_91_code 2 (some (.object "java/lang/String")) [] ({ frames := 6, cells := 2, slots := 16, locals := 131 } : Room) 2 16 #[(.ref x1), (.int (7 : Int32))] h0 (fun v h L => ∃ r t kb, v = some (.ref r) ∧ Strg Z h r t kb [c7, c8, c9, c10, c11] ∧ Keep h0 h [] ∧ Fr n0 L) := by
  refine Con.intro (plainFor_of_name pn_2) ?_
  intro p e s m below meth c s₁ X0 hx hby hml hZ hown hnm hret hlk e0 hs0
  refine Gl.of (fun _ kq_ => castTop (ef_13 m x1 (7 : Int32)) kq_) ?_
  have K0 := Keep.refl h0 []
  show Gl p e below _ (s₁.setTop (mkF m 0 #[.val (.ref x1), .val (.int (7 : Int32))] []))
  refine Gl.of (fun _ kq_ => XS.aloadN X0.here hx rfl (hb hby d17_0) rfl rfl kq_) ?_
  refine Gl.of (fun _ kq_ => XS.iloadN X0.here hx rfl (hb hby d17_1) rfl kq_) ?_
  refine Gl.of (fun _ kq_ => XS.aloadN X0.here hx rfl (hb hby d17_2) rfl rfl kq_) ?_
  refine Gl.callVB X0 hx hZ (y := (⟨"java/lang/String", "length", "()I"⟩ : MethodName)) (z := (⟨"java/lang/String", "length", "()I"⟩ : MethodName)) hown (w96 hw) (w79 hw) (notFace_of_selects (args := #[]) (mvT hZ (w81 hw))) (w81 hw) (w80 hw) (desc_ne (by decide)) (W := 2) (fun v => v = some (.int (12 : Int32))) (b := x1) (argsL := []) (rest := [(.int (7 : Int32)), (.ref x1)]) SN.1 (StrChars.Road.lenW (W := 2) hZ (own_wln hw) (kI := 4) (w7 hw) SN.1 SN.2.1 SN.2.2.1 SN.2.2.2.1 SN.cod SN.up (SC.ext O0.2) hcz SN.2.2.2.2.2 (by decide) (by decide)) (by decide) (by decide) e0 (by rw [hml]; rfl) pd_5 rfl rfl (Nat.le_of_eq rfl) (hb hby d17_3) ?_
  intro v1 T1 X1 e1 hv1
  subst hv1
  show Gl p e below _ (T1.setTop (mkF m 6 #[.val (.ref x1), .val (.int (7 : Int32))] [(.int (12 : Int32)), (.int (7 : Int32)), (.ref x1)]))
  refine Gl.callV X1 hx hZ (y := (⟨"java/lang/String", "substring", "(II)Ljava/lang/String;"⟩ : MethodName)) (z := (⟨"java/lang/String", "substring", "(II)Ljava/lang/String;"⟩ : MethodName)) hown (w97 hw) (w98 hw) (notFace_of_selects (args := #[]) (mvT hZ (w100 hw))) (w100 hw) (w99 hw) (w101 hw) (w8 hw) (desc_ne (by decide)) (rm := { frames := 5, cells := 2, slots := 16, locals := 113 }) (b := x1) (argsL := [(.int (7 : Int32)), (.int (12 : Int32))]) (rest := []) SN.1 (rmS0 l Z a0 hw _ x1 t1 kb1 c0 c1 c2 c3 c4 c5 c6 c7 c8 c9 c10 c11 cz fm n0 SN hfb SC hcz SF rf O0) 0 (by decide) (by decide) (by decide) (by decide) e1 (by rw [hml]; rfl) pd_9 rfl rfl (Nat.le_of_eq rfl) (hb hby d17_6) ?_
  intro v2 T2 L2 X2 hQ2
  obtain ⟨r2, t2, kb2, rfl, SG2, Kq2, Nq2⟩ := hQ2
  have N2 := Fr.app (Fr.nil n0) Nq2
  have gc3 := SN.keep Kq2 (by simp) (by simp)
  have ec4 := SN.1.keep Kq2
  have fc5 := SN.2.1.keep Kq2 (by simp)
  have fc6 := SN.2.2.1.keep Kq2 (by simp)
  have O2 := O0.keep Kq2 all0
  have K2 := K0.trans Kq2 (by intro x hx'; exact nomatch hx')
  show Gl p e below _ (T2.setTop (mkF m 9 #[.val (.ref x1), .val (.int (7 : Int32))] [(.ref r2)]))
  exact Gl.retR X2 hx hlk hret rfl rfl (hb hby d17_9) rfl (⟨_, _, _, rfl, SG2, K2, N2⟩) (by decide) (by decide)
theorem ef_14 (m : MethodId) (x0 : Addr) : entryFrame m #[(.ref x0)] 1 = mkF m 0 #[.val (.ref x0)] [] := by first | (simp [entryFrame, mkF, argsToLocals, Value.category, maxLocals]; done) | rfl
theorem d14_0 : decode prog_56_method_5_code 0 = .ok (.aload_n 0, 1) := by decide +kernel
theorem d14_1 : decode prog_56_method_5_code 1 = .ok (.getfield 20, 3) := by decide +kernel
theorem d14_4 : decode prog_56_method_5_code 4 = .ok (.aload_n 0, 1) := by decide +kernel
theorem d14_5 : decode prog_56_method_5_code 5 = .ok (.getfield 13, 3) := by decide +kernel
theorem d14_8 : decode prog_56_method_5_code 8 = .ok (.invokevirtual 59, 3) := by decide +kernel
theorem w78 {Z : State} {a0 : Array Value} (hw : ∀ d ∈ tables_1, d.before a0 Z = true) : (Jvm.Cond.methodLink "com/example/rulr/rulr/policy/SqlCondition$Membership" (59 : Nat) ({ cls := "java/lang/String", name := "length", desc := "()I" } : Jvm.MethodName)).before a0 Z = true := hw _ (List.mem_of_getElem? (i := 78) rfl)
theorem d14_11 : decode prog_56_method_5_code 11 = .ok (.if_icmp .ne 7, 3) := by decide +kernel
theorem d14_18 : decode prog_56_method_5_code 18 = .ok (.aload_n 0, 1) := by decide +kernel
theorem d14_19 : decode prog_56_method_5_code 19 = .ok (.getfield 13, 3) := by decide +kernel
theorem d14_22 : decode prog_56_method_5_code 22 = .ok (.aload_n 0, 1) := by decide +kernel
theorem d14_23 : decode prog_56_method_5_code 23 = .ok (.getfield 20, 3) := by decide +kernel
theorem d14_26 : decode prog_56_method_5_code 26 = .ok (.ldc 62, 2) := by decide +kernel
theorem d14_28 : decode prog_56_method_5_code 28 = .ok (.invokevirtual 59, 3) := by decide +kernel
theorem d14_31 : decode prog_56_method_5_code 31 = .ok (.iadd, 1) := by decide +kernel
theorem d14_32 : decode prog_56_method_5_code 32 = .ok (.invokevirtual 50, 3) := by decide +kernel
theorem pd_10 : parseMethodDescriptor "(I)Ljava/lang/String;" = some ⟨[.int], some (.object "java/lang/String")⟩ := by decide +kernel
theorem w94 {Z : State} {a0 : Array Value} (hw : ∀ d ∈ tables_1, d.before a0 Z = true) : (Jvm.Cond.selects "java/lang/String" ({ cls := "java/lang/String", name := "substring", desc := "(I)Ljava/lang/String;" } : Jvm.MethodName) ({ cls := "java/lang/String", name := "substring", desc := "(I)Ljava/lang/String;" } : Jvm.MethodName)).before a0 Z = true := hw _ (List.mem_of_getElem? (i := 94) rfl)
theorem w91 {Z : State} {a0 : Array Value} (hw : ∀ d ∈ tables_1, d.before a0 Z = true) : (Jvm.Cond.methodLink "com/example/rulr/rulr/policy/SqlCondition$Membership" (50 : Nat) ({ cls := "java/lang/String", name := "substring", desc := "(I)Ljava/lang/String;" } : Jvm.MethodName)).before a0 Z = true := hw _ (List.mem_of_getElem? (i := 91) rfl)
theorem w92 {Z : State} {a0 : Array Value} (hw : ∀ d ∈ tables_1, d.before a0 Z = true) : (Jvm.Cond.declares ({ cls := "java/lang/String", name := "substring", desc := "(I)Ljava/lang/String;" } : Jvm.MethodName)).before a0 Z = true := hw _ (List.mem_of_getElem? (i := 92) rfl)
theorem w93 {Z : State} {a0 : Array Value} (hw : ∀ d ∈ tables_1, d.before a0 Z = true) : (Jvm.Cond.instanceMethod ({ cls := "java/lang/String", name := "substring", desc := "(I)Ljava/lang/String;" } : Jvm.MethodName)).before a0 Z = true := hw _ (List.mem_of_getElem? (i := 93) rfl)
theorem w95 {Z : State} {a0 : Array Value} (hw : ∀ d ∈ tables_1, d.before a0 Z = true) : (Jvm.Cond.code ({ cls := "java/lang/String", name := "substring", desc := "(I)Ljava/lang/String;" } : Jvm.MethodName) jdk_42_method_91_code (2 : Nat) (Option.some (Jvm.ClassFile.FieldType.object "java/lang/String"))).before a0 Z = true := hw _ (List.mem_of_getElem? (i := 95) rfl)
theorem d14_35 : decode prog_56_method_5_code 35 = .ok (.areturn, 1) := by decide +kernel
theorem rmC0 (l : Launch) (Z : State) (a0 : Array Value) (hw : ∀ d ∈ tables_1, d.before a0 Z = true) (h0 : Heap) (a1 : Addr) (x1 t1 : Addr) (kb1 : ClassId) (c0 c1 c2 c3 c4 c5 c6 c7 c8 c9 c10 c11 : Int32) (cz : Int32) (fm : Value) (n0 : Nat) (Fq : Fld Z h0 a1 "com/example/rulr/rulr/policy/SqlCondition$Membership" "query" "Ljava/lang/String;" (.ref x1)) (Fs : Fld Z h0 a1 "com/example/rulr/rulr/policy/SqlCondition$Membership" "selected" "I" (.int (0 : Int32))) (SN : Strg Z h0 x1 t1 kb1 [c0, c1, c2, c3, c4, c5, c6, c7, c8, c9, c10, c11]) (hfb : Z.vm.findClass "[B" = some kb1) (SC : Sta Z Z.heap "java/lang/String" "COMPACT_STRINGS" "Z" (.int cz)) (hcz : ¬ cz = 0) (SF : Sta Z Z.heap "jdk/internal/util/Preconditions" "SIOOBE_FORMATTER" "Ljava/util/function/BiFunction;" fm) (rf : fm.isRef = true) (O0 : Old Z n0 h0) : ConH l Z own_EL (⟨"com/example/rulr/rulr/policy/SqlCondition$Membership", "condition", "()Ljava/lang/String;"⟩ : MethodName) prog_56_method_5_code 1 (some (.object "java/lang/String")) [] ({ frames := 7, cells := 4, slots := 48, locals := 145 } : Room) 4 48 #[(.ref a1)] h0 (fun v h L => ∃ r t kb, v = some (.ref r) ∧ Strg Z h r t kb [c7, c8, c9, c10, c11] ∧ Keep h0 h [] ∧ Fr n0 L) := by
  refine ConH.intro (plainFor_of_name pn_4) ?_
  intro p e s m below meth c s₁ X0 hx hby hml hZ hown hnm hret hlk e0 hs0 hR0
  refine Gl.of (fun _ kq_ => castTop (ef_14 m a1) kq_) ?_
  have hS0 := (State.WarmedH.refl s).since 0
  have hk0 : 0 ≤ h0.size := Nat.zero_le _
  have K0 := Keep.refl h0 []
  show Gl p e below _ (s₁.setTop (mkF m 0 #[.val (.ref a1)] []))
  refine Gl.of (fun _ kq_ => XS.aloadN X0.here hx rfl (hb hby d14_0) rfl rfl kq_) ?_
  obtain ⟨T1, X1, e1, st1⟩ := getF X0 hx hZ hown (host := "") (Or.inl (w67 hw)) Via.refl e0 Fs (g := (mkF m 1 #[.val (.ref a1)] [(.ref a1)])) rfl rfl (hb hby d14_1)
  refine Gl.of st1 ?_
  show Gl p e below _ (T1.setTop (mkF m 4 #[.val (.ref a1)] [(.int (0 : Int32))]))
  refine Gl.of (fun _ kq_ => XS.aloadN X1.here hx rfl (hb hby d14_4) rfl rfl kq_) ?_
  obtain ⟨T2, X2, e2, st2⟩ := getF X1 hx hZ hown (host := "") (Or.inl (w63 hw)) Via.refl e1 Fq (g := (mkF m 5 #[.val (.ref a1)] [(.ref a1), (.int (0 : Int32))])) rfl rfl (hb hby d14_5)
  refine Gl.of st2 ?_
  show Gl p e below _ (T2.setTop (mkF m 8 #[.val (.ref a1)] [(.ref x1), (.int (0 : Int32))]))
  refine Gl.callVB X2 hx hZ (y := (⟨"java/lang/String", "length", "()I"⟩ : MethodName)) (z := (⟨"java/lang/String", "length", "()I"⟩ : MethodName)) hown (w78 hw) (w79 hw) (notFace_of_selects (args := #[]) (mvT hZ (w81 hw))) (w81 hw) (w80 hw) (desc_ne (by decide)) (W := 1) (fun v => v = some (.int (12 : Int32))) (b := x1) (argsL := []) (rest := [(.int (0 : Int32))]) SN.1 (StrChars.Road.lenW (W := 1) hZ (own_wln hw) (kI := 4) (w7 hw) SN.1 SN.2.1 SN.2.2.1 SN.2.2.2.1 SN.cod SN.up (SC.ext O0.2) hcz SN.2.2.2.2.2 (by decide) (by decide)) (by decide) (by decide) e2 (by rw [hml]; rfl) pd_5 rfl rfl (Nat.le_of_eq rfl) (hb hby d14_8) ?_
  intro v3 T3 X3 e3 hv3
  subst hv3
  show Gl p e below _ (T3.setTop (mkF m 11 #[.val (.ref a1)] [(.int (12 : Int32)), (.int (0 : Int32))]))
  refine Gl.of (fun _ kq_ => XS.icmpYes X3.here hx rfl (pc0 := 11) (pc' := 18) rfl (hb hby d14_11) rfl (feq (by decide : ¬ ((0 : Int32) = (12 : Int32)))).2 (by decide) (by decide) kq_) ?_
  refine Gl.of (fun _ kq_ => XS.aloadN X3.here hx rfl (hb hby d14_18) rfl rfl kq_) ?_
  obtain ⟨T4, X4, e4, st4⟩ := getF X3 hx hZ hown (host := "") (Or.inl (w63 hw)) Via.refl e3 Fq (g := (mkF m 19 #[.val (.ref a1)] [(.ref a1)])) rfl rfl (hb hby d14_19)
  refine Gl.of st4 ?_
  show Gl p e below _ (T4.setTop (mkF m 22 #[.val (.ref a1)] [(.ref x1)]))
  refine Gl.of (fun _ kq_ => XS.aloadN X4.here hx rfl (hb hby d14_22) rfl rfl kq_) ?_
  obtain ⟨T5, X5, e5, st5⟩ := getF X4 hx hZ hown (host := "") (Or.inl (w67 hw)) Via.refl e4 Fs (g := (mkF m 23 #[.val (.ref a1)] [(.ref a1), (.ref x1)])) rfl rfl (hb hby d14_23)
  refine Gl.of st5 ?_
  show Gl p e below _ (T5.setTop (mkF m 26 #[.val (.ref a1)] [(.int (0 : Int32)), (.ref x1)]))
  obtain ⟨b6, T6, h6, k6, t6, kb6, X6, e6, E6, hS6, hk6, hZ, hown, Ea6, Ca6, Va6, Ba6, -, -, rr6, Li6, sf6, st6⟩ := ldcCH X5 hx hZ hown (w88 hw) (own_str hw) e5 hS0 hk0 (own_el hw) (by decide) hR0.1 (vs := (own_wh.map (fun c => c.toInt8.toInt32)).map Value.int) (z := Int32.ofNat own_wh.length) ⟨by decide, rfl⟩ (by decide) (by decide) (g := (mkF m 26 #[.val (.ref a1)] [(.int (0 : Int32)), (.ref x1)])) rfl (hb hby d14_26) (n := 28) (by decide) (by decide) (by decide) (by decide)
  refine Gl.of st6 ?_
  have hR6 := hR0.trans rr6
  have SG6 : Strg Z h6 b6 t6 kb6 own_wh := ⟨Ea6, Va6, Ca6, Ba6, by decide, by decide⟩
  have fc7 := Fq.ext E6
  have fc8 := Fs.ext E6
  have gc9 := SN.ext E6
  have ec10 := SN.1.ext E6
  have O6 := O0.ext E6
  have K6 := K0.ext E6
  show Gl p e below _ (T6.setTop (mkF m 28 #[.val (.ref a1)] [(.ref b6), (.int (0 : Int32)), (.ref x1)]))
  refine Gl.callVB X6 hx hZ (y := (⟨"java/lang/String", "length", "()I"⟩ : MethodName)) (z := (⟨"java/lang/String", "length", "()I"⟩ : MethodName)) hown (w78 hw) (w79 hw) (notFace_of_selects (args := #[]) (mvT hZ (w81 hw))) (w81 hw) (w80 hw) (desc_ne (by decide)) (W := 2) (fun v => v = some (.int (7 : Int32))) (b := b6) (argsL := []) (rest := [(.int (0 : Int32)), (.ref x1)]) SG6.1 (StrChars.Road.lenW (W := 2) hZ (own_wln hw) (kI := 4) (w7 hw) SG6.1 SG6.2.1 SG6.2.2.1 SG6.2.2.2.1 SG6.cod SG6.up (SC.ext O6.2) hcz SG6.2.2.2.2.2 (by decide) (by decide)) (by decide) (by decide) e6 (by rw [hml]; rfl) pd_5 rfl rfl (Nat.le_of_eq rfl) (hb hby d14_28) ?_
  intro v11 T11 X11 e11 hv11
  subst hv11
  show Gl p e below _ (T11.setTop (mkF m 31 #[.val (.ref a1)] [(.int (7 : Int32)), (.int (0 : Int32)), (.ref x1)]))
  refine Gl.of (fun _ kq_ => XS.iadd X11.here hx rfl (hb hby d14_31) rfl kq_) ?_
  show Gl p e below _ (T11.setTop (mkF m 32 #[.val (.ref a1)] [(.int (7 : Int32)), (.ref x1)]))
  refine Gl.callV X11 hx hZ (y := (⟨"java/lang/String", "substring", "(I)Ljava/lang/String;"⟩ : MethodName)) (z := (⟨"java/lang/String", "substring", "(I)Ljava/lang/String;"⟩ : MethodName)) hown (w91 hw) (w92 hw) (notFace_of_selects (args := #[]) (mvT hZ (w94 hw))) (w94 hw) (w93 hw) (w95 hw) (w8 hw) (desc_ne (by decide)) (rm := { frames := 6, cells := 2, slots := 16, locals := 131 }) (b := x1) (argsL := [(.int (7 : Int32))]) (rest := []) ec10 (rmU0 l Z a0 hw _ x1 t1 kb1 c0 c1 c2 c3 c4 c5 c6 c7 c8 c9 c10 c11 cz fm n0 gc9 hfb SC hcz SF rf O6) 0 (by decide) (by decide) (by decide) (by decide) e11 (by rw [hml]; rfl) pd_10 rfl rfl (Nat.le_of_eq rfl) (hb hby d14_32) ?_
  intro v12 T12 L12 X12 hQ12
  obtain ⟨r12, t12, kb12, rfl, SG12, Kq12, Nq12⟩ := hQ12
  have N12 := Fr.app (Fr.nil n0) Nq12
  have fc13 := fc7.keep Kq12 (by simp)
  have fc14 := fc8.keep Kq12 (by simp)
  have gc15 := gc9.keep Kq12 (by simp) (by simp)
  have ec16 := ec10.keep Kq12
  have gc17 := SG6.keep Kq12 (by simp) (by simp)
  have O12 := O6.keep Kq12 all0
  have K12 := K6.trans Kq12 (by intro x hx'; exact nomatch hx')
  have hk12 := Nat.le_trans hk6 Kq12.1
  have hRs := hR6.trans (CHr.keep Kq12 (fun x hx => nomatch hx) hR6.1)
  show Gl p e below _ (T12.setTop (mkF m 35 #[.val (.ref a1)] [(.ref r12)]))
  exact Gl.retRH X12 hx hlk hret rfl rfl (hb hby d14_35) rfl (⟨_, _, _, rfl, SG12, K12, N12⟩) hS6 hk12 hZ (own_el hw) hRs (by decide) (by decide)
theorem ef_15 (m : MethodId) (x0 : Addr) (x1 : Addr) (x2 : Int32) (x3 : Int32) : entryFrame m #[(.ref x0), (.ref x1), (.int x2), (.int x3)] 4 = mkF m 0 #[.val (.ref x0), .val (.ref x1), .val (.int x2), .val (.int x3)] [] := by first | (simp [entryFrame, mkF, argsToLocals, Value.category, maxLocals]; done) | rfl
theorem d27_0 : decode method_3_code 0 = .ok (.iload_n 2, 1) := by decide +kernel
theorem d27_1 : decode method_3_code 1 = .ok (.aload_n 0, 1) := by decide +kernel
theorem d27_2 : decode method_3_code 2 = .ok (.invokevirtual 9, 3) := by decide +kernel
theorem w138 {Z : State} {a0 : Array Value} (hw : ∀ d ∈ tables_1, d.before a0 Z = true) : (Jvm.Cond.methodLink "com/example/rulr/rulr/policy/MembershipConditionPinLaw" (9 : Nat) ({ cls := "java/lang/String", name := "length", desc := "()I" } : Jvm.MethodName)).before a0 Z = true := hw _ (List.mem_of_getElem? (i := 138) rfl)
theorem d27_5 : decode method_3_code 5 = .ok (.if_icmp .ge 19, 3) := by decide +kernel
theorem d27_8 : decode method_3_code 8 = .ok (.aload_n 0, 1) := by decide +kernel
theorem d27_9 : decode method_3_code 9 = .ok (.iload_n 2, 1) := by decide +kernel
theorem d27_10 : decode method_3_code 10 = .ok (.invokevirtual 15, 3) := by decide +kernel
theorem w142 {Z : State} {a0 : Array Value} (hw : ∀ d ∈ tables_1, d.before a0 Z = true) : (Jvm.Cond.methodLink "com/example/rulr/rulr/policy/MembershipConditionPinLaw" (15 : Nat) ({ cls := "java/lang/String", name := "charAt", desc := "(I)C" } : Jvm.MethodName)).before a0 Z = true := hw _ (List.mem_of_getElem? (i := 142) rfl)
theorem w143 {Z : State} {a0 : Array Value} (hw : ∀ d ∈ tables_1, d.before a0 Z = true) : (Jvm.Cond.declares ({ cls := "java/lang/String", name := "charAt", desc := "(I)C" } : Jvm.MethodName)).before a0 Z = true := hw _ (List.mem_of_getElem? (i := 143) rfl)
theorem w145 {Z : State} {a0 : Array Value} (hw : ∀ d ∈ tables_1, d.before a0 Z = true) : (Jvm.Cond.selects "java/lang/String" ({ cls := "java/lang/String", name := "charAt", desc := "(I)C" } : Jvm.MethodName) ({ cls := "java/lang/String", name := "charAt", desc := "(I)C" } : Jvm.MethodName)).before a0 Z = true := hw _ (List.mem_of_getElem? (i := 145) rfl)
theorem w144 {Z : State} {a0 : Array Value} (hw : ∀ d ∈ tables_1, d.before a0 Z = true) : (Jvm.Cond.instanceMethod ({ cls := "java/lang/String", name := "charAt", desc := "(I)C" } : Jvm.MethodName)).before a0 Z = true := hw _ (List.mem_of_getElem? (i := 144) rfl)
theorem pd_11 : parseMethodDescriptor "(I)C" = some ⟨[.int], some .char⟩ := by decide +kernel
theorem d27_13 : decode method_3_code 13 = .ok (.aload_n 1, 1) := by decide +kernel
theorem d27_14 : decode method_3_code 14 = .ok (.iload_n 3, 1) := by decide +kernel
theorem d27_15 : decode method_3_code 15 = .ok (.bipush 7, 2) := by decide +kernel
theorem d27_17 : decode method_3_code 17 = .ok (.iadd, 1) := by decide +kernel
theorem d27_18 : decode method_3_code 18 = .ok (.iload_n 2, 1) := by decide +kernel
theorem d27_19 : decode method_3_code 19 = .ok (.iadd, 1) := by decide +kernel
theorem d27_20 : decode method_3_code 20 = .ok (.caload, 1) := by decide +kernel
theorem d27_21 : decode method_3_code 21 = .ok (.if_icmp .ne 7, 3) := by decide +kernel
theorem d27_24 : decode method_3_code 24 = .ok (.iconst 1, 1) := by decide +kernel
theorem d27_25 : decode method_3_code 25 = .ok (.goto 4, 3) := by decide +kernel
theorem d27_29 : decode method_3_code 29 = .ok (.ireturn, 1) := by decide +kernel
theorem rmA00 (l : Launch) (Z : State) (a0 : Array Value) (hw : ∀ d ∈ tables_1, d.before a0 Z = true) (h0 : Heap) (x1 t1 a2 : Addr) (kb1 kq : ClassId) (c0 c1 c2 c3 c4 c5 c6 c7 c8 c9 c10 c11 : Int32) (cz : Int32) (fm : Value) (n0 : Nat) (SN : Strg Z h0 x1 t1 kb1 [c7, c8, c9, c10, c11]) (VQ : Arv Z h0 a2 kq .char (12 : Int32) [.int c0, .int c1, .int c2, .int c3, .int c4, .int c5, .int c6, .int c7, .int c8, .int c9, .int c10, .int c11] (.int 0)) (SC : Sta Z Z.heap "java/lang/String" "COMPACT_STRINGS" "Z" (.int cz)) (hcz : ¬ cz = 0) (SF : Sta Z Z.heap "jdk/internal/util/Preconditions" "SIOOBE_FORMATTER" "Ljava/util/function/BiFunction;" fm) (rf : fm.isRef = true) (O0 : Old Z n0 h0) : Con l Z (⟨"com/example/rulr/rulr/policy/MembershipConditionPinLaw", "at", "(Ljava/lang/String;[CII)Z"⟩ : MethodName) method_3_code 4 (some .boolean) [] ({ frames := 4, cells := 0, slots := 0, locals := 60 } : Room) 0 0 #[(.ref x1), (.ref a2), (.int (0 : Int32)), (.int (0 : Int32))] h0 (Pur (fun v => v = some (.int 1)) h0) := by
  refine Con.intro (plainFor_of_name pn_0) ?_
  intro p e s m below meth c s₁ X0 hx hby hml hZ hown hnm hret hlk e0 hs0
  refine Gl.of (fun _ kq_ => castTop (ef_15 m x1 a2 (0 : Int32) (0 : Int32)) kq_) ?_
  show Gl p e below _ (s₁.setTop (mkF m 0 #[.val (.ref x1), .val (.ref a2), .val (.int (0 : Int32)), .val (.int (0 : Int32))] []))
  refine Gl.of (fun _ kq_ => XS.iloadN X0.here hx rfl (hb hby d27_0) rfl kq_) ?_
  refine Gl.of (fun _ kq_ => XS.aloadN X0.here hx rfl (hb hby d27_1) rfl rfl kq_) ?_
  refine Gl.callVB X0 hx hZ (y := (⟨"java/lang/String", "length", "()I"⟩ : MethodName)) (z := (⟨"java/lang/String", "length", "()I"⟩ : MethodName)) hown (w138 hw) (w79 hw) (notFace_of_selects (args := #[]) (mvT hZ (w81 hw))) (w81 hw) (w80 hw) (desc_ne (by decide)) (W := 1) (fun v => v = some (.int (5 : Int32))) (b := x1) (argsL := []) (rest := [(.int (0 : Int32))]) SN.1 (StrChars.Road.lenW (W := 1) hZ (own_wln hw) (kI := 4) (w7 hw) SN.1 SN.2.1 SN.2.2.1 SN.2.2.2.1 SN.cod SN.up (SC.ext O0.2) hcz SN.2.2.2.2.2 (by decide) (by decide)) (by decide) (by decide) e0 (by rw [hml]; rfl) pd_5 rfl rfl (Nat.le_of_eq rfl) (hb hby d27_2) ?_
  intro v1 T1 X1 e1 hv1
  subst hv1
  show Gl p e below _ (T1.setTop (mkF m 5 #[.val (.ref x1), .val (.ref a2), .val (.int (0 : Int32)), .val (.int (0 : Int32))] [(.int (5 : Int32)), (.int (0 : Int32))]))
  refine Gl.of (fun _ kq_ => XS.icmpNo X1.here hx rfl (hb hby d27_5) rfl (tlt (by decide : (0 : Int32) < (5 : Int32))).2.1 kq_) ?_
  refine Gl.of (fun _ kq_ => XS.aloadN X1.here hx rfl (hb hby d27_8) rfl rfl kq_) ?_
  refine Gl.of (fun _ kq_ => XS.iloadN X1.here hx rfl (hb hby d27_9) rfl kq_) ?_
  refine Gl.callVB X1 hx hZ (y := (⟨"java/lang/String", "charAt", "(I)C"⟩ : MethodName)) (z := (⟨"java/lang/String", "charAt", "(I)C"⟩ : MethodName)) hown (w142 hw) (w143 hw) (notFace_of_selects (args := #[]) (mvT hZ (w145 hw))) (w145 hw) (w144 hw) (desc_ne (by decide)) (W := 0) (fun v => v = some (.int c7)) (b := x1) (argsL := [(.int (0 : Int32))]) (rest := []) SN.1 (StrChars.Road.chN (W := 0) hZ (own_wch hw) (kI := 4) (w7 hw) SN.1 SN.2.1 SN.2.2.1 SN.2.2.2.1 SN.cod SN.up (SC.ext O0.2) hcz (SF.ext O0.2) rf SN.2.2.2.2.2 (i := 0) (Nat.le_of_ble_eq_true rfl) (j := (0 : Int32)) rfl (by decide) (by decide)) (by decide) (by decide) e1 (by rw [hml]; rfl) pd_11 rfl rfl (Nat.le_of_eq rfl) (hb hby d27_10) ?_
  intro v2 T2 X2 e2 hv2
  subst hv2
  show Gl p e below _ (T2.setTop (mkF m 13 #[.val (.ref x1), .val (.ref a2), .val (.int (0 : Int32)), .val (.int (0 : Int32))] [(.int c7)]))
  refine Gl.of (fun _ kq_ => XS.aloadN X2.here hx rfl (hb hby d27_13) rfl rfl kq_) ?_
  refine Gl.of (fun _ kq_ => XS.iloadN X2.here hx rfl (hb hby d27_14) rfl kq_) ?_
  refine Gl.of (fun _ kq_ => XS.bipush X2.here hx rfl (hb hby d27_15) kq_) ?_
  refine Gl.of (fun _ kq_ => XS.iadd X2.here hx rfl (hb hby d27_17) rfl kq_) ?_
  show Gl p e below _ (T2.setTop (mkF m 18 #[.val (.ref x1), .val (.ref a2), .val (.int (0 : Int32)), .val (.int (0 : Int32))] [(.int (7 : Int32)), (.ref a2), (.int c7)]))
  refine Gl.of (fun _ kq_ => XS.iloadN X2.here hx rfl (hb hby d27_18) rfl kq_) ?_
  refine Gl.of (fun _ kq_ => XS.iadd X2.here hx rfl (hb hby d27_19) rfl kq_) ?_
  show Gl p e below _ (T2.setTop (mkF m 20 #[.val (.ref x1), .val (.ref a2), .val (.int (0 : Int32)), .val (.int (0 : Int32))] [(.int (7 : Int32)), (.ref a2), (.int c7)]))
  obtain ⟨zcl3, zAr3, zq3, zS3, zM3, zH3, zG3⟩ := id VQ
  refine Gl.of (fun _ kq_ => X2.caload hx (j := (7 : Int32)) (v := (.int c7)) (by rw [e2]; exact (zAr3).1) (State.isArrayOf_alike hZ.alike (zAr3).2.1) (zAr3).2.2 (inb_of zS3 ⟨by decide, by decide⟩) (zH3 7 (by rw [zS3]; decide)) (g := (mkF m 20 #[.val (.ref x1), .val (.ref a2), .val (.int (0 : Int32)), .val (.int (0 : Int32))] [(.int (7 : Int32)), (.ref a2), (.int c7)])) rfl rfl (hb hby d27_20) _ kq_) ?_
  show Gl p e below _ (T2.setTop (mkF m 21 #[.val (.ref x1), .val (.ref a2), .val (.int (0 : Int32)), .val (.int (0 : Int32))] [(.int c7), (.int c7)]))
  refine Gl.of (fun _ kq_ => XS.icmpNo X2.here hx rfl (hb hby d27_21) rfl (teq (rfl : c7 = c7)).2 kq_) ?_
  refine Gl.of (fun _ kq_ => XS.iconst X2.here hx rfl (hb hby d27_24) kq_) ?_
  refine Gl.of (fun _ kq_ => XS.goto X2.here hx rfl (pc0 := 25) (pc' := 29) rfl (hb hby d27_25) (by decide) (by decide) kq_) ?_
  exact Gl.retN X2 hx hlk hret (by simp) (hb hby d27_29) e2 (⟨rfl, rfl, rfl⟩) (by decide) (by decide)
theorem rmA01 (l : Launch) (Z : State) (a0 : Array Value) (hw : ∀ d ∈ tables_1, d.before a0 Z = true) (h0 : Heap) (x1 t1 a2 : Addr) (kb1 kq : ClassId) (c0 c1 c2 c3 c4 c5 c6 c7 c8 c9 c10 c11 : Int32) (cz : Int32) (fm : Value) (n0 : Nat) (SN : Strg Z h0 x1 t1 kb1 [c7, c8, c9, c10, c11]) (VQ : Arv Z h0 a2 kq .char (12 : Int32) [.int c0, .int c1, .int c2, .int c3, .int c4, .int c5, .int c6, .int c7, .int c8, .int c9, .int c10, .int c11] (.int 0)) (SC : Sta Z Z.heap "java/lang/String" "COMPACT_STRINGS" "Z" (.int cz)) (hcz : ¬ cz = 0) (SF : Sta Z Z.heap "jdk/internal/util/Preconditions" "SIOOBE_FORMATTER" "Ljava/util/function/BiFunction;" fm) (rf : fm.isRef = true) (O0 : Old Z n0 h0) : Con l Z (⟨"com/example/rulr/rulr/policy/MembershipConditionPinLaw", "at", "(Ljava/lang/String;[CII)Z"⟩ : MethodName) method_3_code 4 (some .boolean) [] ({ frames := 4, cells := 0, slots := 0, locals := 60 } : Room) 0 0 #[(.ref x1), (.ref a2), (.int (1 : Int32)), (.int (0 : Int32))] h0 (Pur (fun v => v = some (.int 1)) h0) := by
  refine Con.intro (plainFor_of_name pn_0) ?_
  intro p e s m below meth c s₁ X0 hx hby hml hZ hown hnm hret hlk e0 hs0
  refine Gl.of (fun _ kq_ => castTop (ef_15 m x1 a2 (1 : Int32) (0 : Int32)) kq_) ?_
  show Gl p e below _ (s₁.setTop (mkF m 0 #[.val (.ref x1), .val (.ref a2), .val (.int (1 : Int32)), .val (.int (0 : Int32))] []))
  refine Gl.of (fun _ kq_ => XS.iloadN X0.here hx rfl (hb hby d27_0) rfl kq_) ?_
  refine Gl.of (fun _ kq_ => XS.aloadN X0.here hx rfl (hb hby d27_1) rfl rfl kq_) ?_
  refine Gl.callVB X0 hx hZ (y := (⟨"java/lang/String", "length", "()I"⟩ : MethodName)) (z := (⟨"java/lang/String", "length", "()I"⟩ : MethodName)) hown (w138 hw) (w79 hw) (notFace_of_selects (args := #[]) (mvT hZ (w81 hw))) (w81 hw) (w80 hw) (desc_ne (by decide)) (W := 1) (fun v => v = some (.int (5 : Int32))) (b := x1) (argsL := []) (rest := [(.int (1 : Int32))]) SN.1 (StrChars.Road.lenW (W := 1) hZ (own_wln hw) (kI := 4) (w7 hw) SN.1 SN.2.1 SN.2.2.1 SN.2.2.2.1 SN.cod SN.up (SC.ext O0.2) hcz SN.2.2.2.2.2 (by decide) (by decide)) (by decide) (by decide) e0 (by rw [hml]; rfl) pd_5 rfl rfl (Nat.le_of_eq rfl) (hb hby d27_2) ?_
  intro v1 T1 X1 e1 hv1
  subst hv1
  show Gl p e below _ (T1.setTop (mkF m 5 #[.val (.ref x1), .val (.ref a2), .val (.int (1 : Int32)), .val (.int (0 : Int32))] [(.int (5 : Int32)), (.int (1 : Int32))]))
  refine Gl.of (fun _ kq_ => XS.icmpNo X1.here hx rfl (hb hby d27_5) rfl (tlt (by decide : (1 : Int32) < (5 : Int32))).2.1 kq_) ?_
  refine Gl.of (fun _ kq_ => XS.aloadN X1.here hx rfl (hb hby d27_8) rfl rfl kq_) ?_
  refine Gl.of (fun _ kq_ => XS.iloadN X1.here hx rfl (hb hby d27_9) rfl kq_) ?_
  refine Gl.callVB X1 hx hZ (y := (⟨"java/lang/String", "charAt", "(I)C"⟩ : MethodName)) (z := (⟨"java/lang/String", "charAt", "(I)C"⟩ : MethodName)) hown (w142 hw) (w143 hw) (notFace_of_selects (args := #[]) (mvT hZ (w145 hw))) (w145 hw) (w144 hw) (desc_ne (by decide)) (W := 0) (fun v => v = some (.int c8)) (b := x1) (argsL := [(.int (1 : Int32))]) (rest := []) SN.1 (StrChars.Road.chN (W := 0) hZ (own_wch hw) (kI := 4) (w7 hw) SN.1 SN.2.1 SN.2.2.1 SN.2.2.2.1 SN.cod SN.up (SC.ext O0.2) hcz (SF.ext O0.2) rf SN.2.2.2.2.2 (i := 1) (Nat.le_of_ble_eq_true rfl) (j := (1 : Int32)) rfl (by decide) (by decide)) (by decide) (by decide) e1 (by rw [hml]; rfl) pd_11 rfl rfl (Nat.le_of_eq rfl) (hb hby d27_10) ?_
  intro v2 T2 X2 e2 hv2
  subst hv2
  show Gl p e below _ (T2.setTop (mkF m 13 #[.val (.ref x1), .val (.ref a2), .val (.int (1 : Int32)), .val (.int (0 : Int32))] [(.int c8)]))
  refine Gl.of (fun _ kq_ => XS.aloadN X2.here hx rfl (hb hby d27_13) rfl rfl kq_) ?_
  refine Gl.of (fun _ kq_ => XS.iloadN X2.here hx rfl (hb hby d27_14) rfl kq_) ?_
  refine Gl.of (fun _ kq_ => XS.bipush X2.here hx rfl (hb hby d27_15) kq_) ?_
  refine Gl.of (fun _ kq_ => XS.iadd X2.here hx rfl (hb hby d27_17) rfl kq_) ?_
  show Gl p e below _ (T2.setTop (mkF m 18 #[.val (.ref x1), .val (.ref a2), .val (.int (1 : Int32)), .val (.int (0 : Int32))] [(.int (7 : Int32)), (.ref a2), (.int c8)]))
  refine Gl.of (fun _ kq_ => XS.iloadN X2.here hx rfl (hb hby d27_18) rfl kq_) ?_
  refine Gl.of (fun _ kq_ => XS.iadd X2.here hx rfl (hb hby d27_19) rfl kq_) ?_
  show Gl p e below _ (T2.setTop (mkF m 20 #[.val (.ref x1), .val (.ref a2), .val (.int (1 : Int32)), .val (.int (0 : Int32))] [(.int (8 : Int32)), (.ref a2), (.int c8)]))
  obtain ⟨zcl3, zAr3, zq3, zS3, zM3, zH3, zG3⟩ := id VQ
  refine Gl.of (fun _ kq_ => X2.caload hx (j := (8 : Int32)) (v := (.int c8)) (by rw [e2]; exact (zAr3).1) (State.isArrayOf_alike hZ.alike (zAr3).2.1) (zAr3).2.2 (inb_of zS3 ⟨by decide, by decide⟩) (zH3 8 (by rw [zS3]; decide)) (g := (mkF m 20 #[.val (.ref x1), .val (.ref a2), .val (.int (1 : Int32)), .val (.int (0 : Int32))] [(.int (8 : Int32)), (.ref a2), (.int c8)])) rfl rfl (hb hby d27_20) _ kq_) ?_
  show Gl p e below _ (T2.setTop (mkF m 21 #[.val (.ref x1), .val (.ref a2), .val (.int (1 : Int32)), .val (.int (0 : Int32))] [(.int c8), (.int c8)]))
  refine Gl.of (fun _ kq_ => XS.icmpNo X2.here hx rfl (hb hby d27_21) rfl (teq (rfl : c8 = c8)).2 kq_) ?_
  refine Gl.of (fun _ kq_ => XS.iconst X2.here hx rfl (hb hby d27_24) kq_) ?_
  refine Gl.of (fun _ kq_ => XS.goto X2.here hx rfl (pc0 := 25) (pc' := 29) rfl (hb hby d27_25) (by decide) (by decide) kq_) ?_
  exact Gl.retN X2 hx hlk hret (by simp) (hb hby d27_29) e2 (⟨rfl, rfl, rfl⟩) (by decide) (by decide)
theorem rmA02 (l : Launch) (Z : State) (a0 : Array Value) (hw : ∀ d ∈ tables_1, d.before a0 Z = true) (h0 : Heap) (x1 t1 a2 : Addr) (kb1 kq : ClassId) (c0 c1 c2 c3 c4 c5 c6 c7 c8 c9 c10 c11 : Int32) (cz : Int32) (fm : Value) (n0 : Nat) (SN : Strg Z h0 x1 t1 kb1 [c7, c8, c9, c10, c11]) (VQ : Arv Z h0 a2 kq .char (12 : Int32) [.int c0, .int c1, .int c2, .int c3, .int c4, .int c5, .int c6, .int c7, .int c8, .int c9, .int c10, .int c11] (.int 0)) (SC : Sta Z Z.heap "java/lang/String" "COMPACT_STRINGS" "Z" (.int cz)) (hcz : ¬ cz = 0) (SF : Sta Z Z.heap "jdk/internal/util/Preconditions" "SIOOBE_FORMATTER" "Ljava/util/function/BiFunction;" fm) (rf : fm.isRef = true) (O0 : Old Z n0 h0) : Con l Z (⟨"com/example/rulr/rulr/policy/MembershipConditionPinLaw", "at", "(Ljava/lang/String;[CII)Z"⟩ : MethodName) method_3_code 4 (some .boolean) [] ({ frames := 4, cells := 0, slots := 0, locals := 60 } : Room) 0 0 #[(.ref x1), (.ref a2), (.int (2 : Int32)), (.int (0 : Int32))] h0 (Pur (fun v => v = some (.int 1)) h0) := by
  refine Con.intro (plainFor_of_name pn_0) ?_
  intro p e s m below meth c s₁ X0 hx hby hml hZ hown hnm hret hlk e0 hs0
  refine Gl.of (fun _ kq_ => castTop (ef_15 m x1 a2 (2 : Int32) (0 : Int32)) kq_) ?_
  show Gl p e below _ (s₁.setTop (mkF m 0 #[.val (.ref x1), .val (.ref a2), .val (.int (2 : Int32)), .val (.int (0 : Int32))] []))
  refine Gl.of (fun _ kq_ => XS.iloadN X0.here hx rfl (hb hby d27_0) rfl kq_) ?_
  refine Gl.of (fun _ kq_ => XS.aloadN X0.here hx rfl (hb hby d27_1) rfl rfl kq_) ?_
  refine Gl.callVB X0 hx hZ (y := (⟨"java/lang/String", "length", "()I"⟩ : MethodName)) (z := (⟨"java/lang/String", "length", "()I"⟩ : MethodName)) hown (w138 hw) (w79 hw) (notFace_of_selects (args := #[]) (mvT hZ (w81 hw))) (w81 hw) (w80 hw) (desc_ne (by decide)) (W := 1) (fun v => v = some (.int (5 : Int32))) (b := x1) (argsL := []) (rest := [(.int (2 : Int32))]) SN.1 (StrChars.Road.lenW (W := 1) hZ (own_wln hw) (kI := 4) (w7 hw) SN.1 SN.2.1 SN.2.2.1 SN.2.2.2.1 SN.cod SN.up (SC.ext O0.2) hcz SN.2.2.2.2.2 (by decide) (by decide)) (by decide) (by decide) e0 (by rw [hml]; rfl) pd_5 rfl rfl (Nat.le_of_eq rfl) (hb hby d27_2) ?_
  intro v1 T1 X1 e1 hv1
  subst hv1
  show Gl p e below _ (T1.setTop (mkF m 5 #[.val (.ref x1), .val (.ref a2), .val (.int (2 : Int32)), .val (.int (0 : Int32))] [(.int (5 : Int32)), (.int (2 : Int32))]))
  refine Gl.of (fun _ kq_ => XS.icmpNo X1.here hx rfl (hb hby d27_5) rfl (tlt (by decide : (2 : Int32) < (5 : Int32))).2.1 kq_) ?_
  refine Gl.of (fun _ kq_ => XS.aloadN X1.here hx rfl (hb hby d27_8) rfl rfl kq_) ?_
  refine Gl.of (fun _ kq_ => XS.iloadN X1.here hx rfl (hb hby d27_9) rfl kq_) ?_
  refine Gl.callVB X1 hx hZ (y := (⟨"java/lang/String", "charAt", "(I)C"⟩ : MethodName)) (z := (⟨"java/lang/String", "charAt", "(I)C"⟩ : MethodName)) hown (w142 hw) (w143 hw) (notFace_of_selects (args := #[]) (mvT hZ (w145 hw))) (w145 hw) (w144 hw) (desc_ne (by decide)) (W := 0) (fun v => v = some (.int c9)) (b := x1) (argsL := [(.int (2 : Int32))]) (rest := []) SN.1 (StrChars.Road.chN (W := 0) hZ (own_wch hw) (kI := 4) (w7 hw) SN.1 SN.2.1 SN.2.2.1 SN.2.2.2.1 SN.cod SN.up (SC.ext O0.2) hcz (SF.ext O0.2) rf SN.2.2.2.2.2 (i := 2) (Nat.le_of_ble_eq_true rfl) (j := (2 : Int32)) rfl (by decide) (by decide)) (by decide) (by decide) e1 (by rw [hml]; rfl) pd_11 rfl rfl (Nat.le_of_eq rfl) (hb hby d27_10) ?_
  intro v2 T2 X2 e2 hv2
  subst hv2
  show Gl p e below _ (T2.setTop (mkF m 13 #[.val (.ref x1), .val (.ref a2), .val (.int (2 : Int32)), .val (.int (0 : Int32))] [(.int c9)]))
  refine Gl.of (fun _ kq_ => XS.aloadN X2.here hx rfl (hb hby d27_13) rfl rfl kq_) ?_
  refine Gl.of (fun _ kq_ => XS.iloadN X2.here hx rfl (hb hby d27_14) rfl kq_) ?_
  refine Gl.of (fun _ kq_ => XS.bipush X2.here hx rfl (hb hby d27_15) kq_) ?_
  refine Gl.of (fun _ kq_ => XS.iadd X2.here hx rfl (hb hby d27_17) rfl kq_) ?_
  show Gl p e below _ (T2.setTop (mkF m 18 #[.val (.ref x1), .val (.ref a2), .val (.int (2 : Int32)), .val (.int (0 : Int32))] [(.int (7 : Int32)), (.ref a2), (.int c9)]))
  refine Gl.of (fun _ kq_ => XS.iloadN X2.here hx rfl (hb hby d27_18) rfl kq_) ?_
  refine Gl.of (fun _ kq_ => XS.iadd X2.here hx rfl (hb hby d27_19) rfl kq_) ?_
  show Gl p e below _ (T2.setTop (mkF m 20 #[.val (.ref x1), .val (.ref a2), .val (.int (2 : Int32)), .val (.int (0 : Int32))] [(.int (9 : Int32)), (.ref a2), (.int c9)]))
  obtain ⟨zcl3, zAr3, zq3, zS3, zM3, zH3, zG3⟩ := id VQ
  refine Gl.of (fun _ kq_ => X2.caload hx (j := (9 : Int32)) (v := (.int c9)) (by rw [e2]; exact (zAr3).1) (State.isArrayOf_alike hZ.alike (zAr3).2.1) (zAr3).2.2 (inb_of zS3 ⟨by decide, by decide⟩) (zH3 9 (by rw [zS3]; decide)) (g := (mkF m 20 #[.val (.ref x1), .val (.ref a2), .val (.int (2 : Int32)), .val (.int (0 : Int32))] [(.int (9 : Int32)), (.ref a2), (.int c9)])) rfl rfl (hb hby d27_20) _ kq_) ?_
  show Gl p e below _ (T2.setTop (mkF m 21 #[.val (.ref x1), .val (.ref a2), .val (.int (2 : Int32)), .val (.int (0 : Int32))] [(.int c9), (.int c9)]))
  refine Gl.of (fun _ kq_ => XS.icmpNo X2.here hx rfl (hb hby d27_21) rfl (teq (rfl : c9 = c9)).2 kq_) ?_
  refine Gl.of (fun _ kq_ => XS.iconst X2.here hx rfl (hb hby d27_24) kq_) ?_
  refine Gl.of (fun _ kq_ => XS.goto X2.here hx rfl (pc0 := 25) (pc' := 29) rfl (hb hby d27_25) (by decide) (by decide) kq_) ?_
  exact Gl.retN X2 hx hlk hret (by simp) (hb hby d27_29) e2 (⟨rfl, rfl, rfl⟩) (by decide) (by decide)
theorem rmA03 (l : Launch) (Z : State) (a0 : Array Value) (hw : ∀ d ∈ tables_1, d.before a0 Z = true) (h0 : Heap) (x1 t1 a2 : Addr) (kb1 kq : ClassId) (c0 c1 c2 c3 c4 c5 c6 c7 c8 c9 c10 c11 : Int32) (cz : Int32) (fm : Value) (n0 : Nat) (SN : Strg Z h0 x1 t1 kb1 [c7, c8, c9, c10, c11]) (VQ : Arv Z h0 a2 kq .char (12 : Int32) [.int c0, .int c1, .int c2, .int c3, .int c4, .int c5, .int c6, .int c7, .int c8, .int c9, .int c10, .int c11] (.int 0)) (SC : Sta Z Z.heap "java/lang/String" "COMPACT_STRINGS" "Z" (.int cz)) (hcz : ¬ cz = 0) (SF : Sta Z Z.heap "jdk/internal/util/Preconditions" "SIOOBE_FORMATTER" "Ljava/util/function/BiFunction;" fm) (rf : fm.isRef = true) (O0 : Old Z n0 h0) : Con l Z (⟨"com/example/rulr/rulr/policy/MembershipConditionPinLaw", "at", "(Ljava/lang/String;[CII)Z"⟩ : MethodName) method_3_code 4 (some .boolean) [] ({ frames := 4, cells := 0, slots := 0, locals := 60 } : Room) 0 0 #[(.ref x1), (.ref a2), (.int (3 : Int32)), (.int (0 : Int32))] h0 (Pur (fun v => v = some (.int 1)) h0) := by
  refine Con.intro (plainFor_of_name pn_0) ?_
  intro p e s m below meth c s₁ X0 hx hby hml hZ hown hnm hret hlk e0 hs0
  refine Gl.of (fun _ kq_ => castTop (ef_15 m x1 a2 (3 : Int32) (0 : Int32)) kq_) ?_
  show Gl p e below _ (s₁.setTop (mkF m 0 #[.val (.ref x1), .val (.ref a2), .val (.int (3 : Int32)), .val (.int (0 : Int32))] []))
  refine Gl.of (fun _ kq_ => XS.iloadN X0.here hx rfl (hb hby d27_0) rfl kq_) ?_
  refine Gl.of (fun _ kq_ => XS.aloadN X0.here hx rfl (hb hby d27_1) rfl rfl kq_) ?_
  refine Gl.callVB X0 hx hZ (y := (⟨"java/lang/String", "length", "()I"⟩ : MethodName)) (z := (⟨"java/lang/String", "length", "()I"⟩ : MethodName)) hown (w138 hw) (w79 hw) (notFace_of_selects (args := #[]) (mvT hZ (w81 hw))) (w81 hw) (w80 hw) (desc_ne (by decide)) (W := 1) (fun v => v = some (.int (5 : Int32))) (b := x1) (argsL := []) (rest := [(.int (3 : Int32))]) SN.1 (StrChars.Road.lenW (W := 1) hZ (own_wln hw) (kI := 4) (w7 hw) SN.1 SN.2.1 SN.2.2.1 SN.2.2.2.1 SN.cod SN.up (SC.ext O0.2) hcz SN.2.2.2.2.2 (by decide) (by decide)) (by decide) (by decide) e0 (by rw [hml]; rfl) pd_5 rfl rfl (Nat.le_of_eq rfl) (hb hby d27_2) ?_
  intro v1 T1 X1 e1 hv1
  subst hv1
  show Gl p e below _ (T1.setTop (mkF m 5 #[.val (.ref x1), .val (.ref a2), .val (.int (3 : Int32)), .val (.int (0 : Int32))] [(.int (5 : Int32)), (.int (3 : Int32))]))
  refine Gl.of (fun _ kq_ => XS.icmpNo X1.here hx rfl (hb hby d27_5) rfl (tlt (by decide : (3 : Int32) < (5 : Int32))).2.1 kq_) ?_
  refine Gl.of (fun _ kq_ => XS.aloadN X1.here hx rfl (hb hby d27_8) rfl rfl kq_) ?_
  refine Gl.of (fun _ kq_ => XS.iloadN X1.here hx rfl (hb hby d27_9) rfl kq_) ?_
  refine Gl.callVB X1 hx hZ (y := (⟨"java/lang/String", "charAt", "(I)C"⟩ : MethodName)) (z := (⟨"java/lang/String", "charAt", "(I)C"⟩ : MethodName)) hown (w142 hw) (w143 hw) (notFace_of_selects (args := #[]) (mvT hZ (w145 hw))) (w145 hw) (w144 hw) (desc_ne (by decide)) (W := 0) (fun v => v = some (.int c10)) (b := x1) (argsL := [(.int (3 : Int32))]) (rest := []) SN.1 (StrChars.Road.chN (W := 0) hZ (own_wch hw) (kI := 4) (w7 hw) SN.1 SN.2.1 SN.2.2.1 SN.2.2.2.1 SN.cod SN.up (SC.ext O0.2) hcz (SF.ext O0.2) rf SN.2.2.2.2.2 (i := 3) (Nat.le_of_ble_eq_true rfl) (j := (3 : Int32)) rfl (by decide) (by decide)) (by decide) (by decide) e1 (by rw [hml]; rfl) pd_11 rfl rfl (Nat.le_of_eq rfl) (hb hby d27_10) ?_
  intro v2 T2 X2 e2 hv2
  subst hv2
  show Gl p e below _ (T2.setTop (mkF m 13 #[.val (.ref x1), .val (.ref a2), .val (.int (3 : Int32)), .val (.int (0 : Int32))] [(.int c10)]))
  refine Gl.of (fun _ kq_ => XS.aloadN X2.here hx rfl (hb hby d27_13) rfl rfl kq_) ?_
  refine Gl.of (fun _ kq_ => XS.iloadN X2.here hx rfl (hb hby d27_14) rfl kq_) ?_
  refine Gl.of (fun _ kq_ => XS.bipush X2.here hx rfl (hb hby d27_15) kq_) ?_
  refine Gl.of (fun _ kq_ => XS.iadd X2.here hx rfl (hb hby d27_17) rfl kq_) ?_
  show Gl p e below _ (T2.setTop (mkF m 18 #[.val (.ref x1), .val (.ref a2), .val (.int (3 : Int32)), .val (.int (0 : Int32))] [(.int (7 : Int32)), (.ref a2), (.int c10)]))
  refine Gl.of (fun _ kq_ => XS.iloadN X2.here hx rfl (hb hby d27_18) rfl kq_) ?_
  refine Gl.of (fun _ kq_ => XS.iadd X2.here hx rfl (hb hby d27_19) rfl kq_) ?_
  show Gl p e below _ (T2.setTop (mkF m 20 #[.val (.ref x1), .val (.ref a2), .val (.int (3 : Int32)), .val (.int (0 : Int32))] [(.int (10 : Int32)), (.ref a2), (.int c10)]))
  obtain ⟨zcl3, zAr3, zq3, zS3, zM3, zH3, zG3⟩ := id VQ
  refine Gl.of (fun _ kq_ => X2.caload hx (j := (10 : Int32)) (v := (.int c10)) (by rw [e2]; exact (zAr3).1) (State.isArrayOf_alike hZ.alike (zAr3).2.1) (zAr3).2.2 (inb_of zS3 ⟨by decide, by decide⟩) (zH3 10 (by rw [zS3]; decide)) (g := (mkF m 20 #[.val (.ref x1), .val (.ref a2), .val (.int (3 : Int32)), .val (.int (0 : Int32))] [(.int (10 : Int32)), (.ref a2), (.int c10)])) rfl rfl (hb hby d27_20) _ kq_) ?_
  show Gl p e below _ (T2.setTop (mkF m 21 #[.val (.ref x1), .val (.ref a2), .val (.int (3 : Int32)), .val (.int (0 : Int32))] [(.int c10), (.int c10)]))
  refine Gl.of (fun _ kq_ => XS.icmpNo X2.here hx rfl (hb hby d27_21) rfl (teq (rfl : c10 = c10)).2 kq_) ?_
  refine Gl.of (fun _ kq_ => XS.iconst X2.here hx rfl (hb hby d27_24) kq_) ?_
  refine Gl.of (fun _ kq_ => XS.goto X2.here hx rfl (pc0 := 25) (pc' := 29) rfl (hb hby d27_25) (by decide) (by decide) kq_) ?_
  exact Gl.retN X2 hx hlk hret (by simp) (hb hby d27_29) e2 (⟨rfl, rfl, rfl⟩) (by decide) (by decide)
theorem rmA04 (l : Launch) (Z : State) (a0 : Array Value) (hw : ∀ d ∈ tables_1, d.before a0 Z = true) (h0 : Heap) (x1 t1 a2 : Addr) (kb1 kq : ClassId) (c0 c1 c2 c3 c4 c5 c6 c7 c8 c9 c10 c11 : Int32) (cz : Int32) (fm : Value) (n0 : Nat) (SN : Strg Z h0 x1 t1 kb1 [c7, c8, c9, c10, c11]) (VQ : Arv Z h0 a2 kq .char (12 : Int32) [.int c0, .int c1, .int c2, .int c3, .int c4, .int c5, .int c6, .int c7, .int c8, .int c9, .int c10, .int c11] (.int 0)) (SC : Sta Z Z.heap "java/lang/String" "COMPACT_STRINGS" "Z" (.int cz)) (hcz : ¬ cz = 0) (SF : Sta Z Z.heap "jdk/internal/util/Preconditions" "SIOOBE_FORMATTER" "Ljava/util/function/BiFunction;" fm) (rf : fm.isRef = true) (O0 : Old Z n0 h0) : Con l Z (⟨"com/example/rulr/rulr/policy/MembershipConditionPinLaw", "at", "(Ljava/lang/String;[CII)Z"⟩ : MethodName) method_3_code 4 (some .boolean) [] ({ frames := 4, cells := 0, slots := 0, locals := 60 } : Room) 0 0 #[(.ref x1), (.ref a2), (.int (4 : Int32)), (.int (0 : Int32))] h0 (Pur (fun v => v = some (.int 1)) h0) := by
  refine Con.intro (plainFor_of_name pn_0) ?_
  intro p e s m below meth c s₁ X0 hx hby hml hZ hown hnm hret hlk e0 hs0
  refine Gl.of (fun _ kq_ => castTop (ef_15 m x1 a2 (4 : Int32) (0 : Int32)) kq_) ?_
  show Gl p e below _ (s₁.setTop (mkF m 0 #[.val (.ref x1), .val (.ref a2), .val (.int (4 : Int32)), .val (.int (0 : Int32))] []))
  refine Gl.of (fun _ kq_ => XS.iloadN X0.here hx rfl (hb hby d27_0) rfl kq_) ?_
  refine Gl.of (fun _ kq_ => XS.aloadN X0.here hx rfl (hb hby d27_1) rfl rfl kq_) ?_
  refine Gl.callVB X0 hx hZ (y := (⟨"java/lang/String", "length", "()I"⟩ : MethodName)) (z := (⟨"java/lang/String", "length", "()I"⟩ : MethodName)) hown (w138 hw) (w79 hw) (notFace_of_selects (args := #[]) (mvT hZ (w81 hw))) (w81 hw) (w80 hw) (desc_ne (by decide)) (W := 1) (fun v => v = some (.int (5 : Int32))) (b := x1) (argsL := []) (rest := [(.int (4 : Int32))]) SN.1 (StrChars.Road.lenW (W := 1) hZ (own_wln hw) (kI := 4) (w7 hw) SN.1 SN.2.1 SN.2.2.1 SN.2.2.2.1 SN.cod SN.up (SC.ext O0.2) hcz SN.2.2.2.2.2 (by decide) (by decide)) (by decide) (by decide) e0 (by rw [hml]; rfl) pd_5 rfl rfl (Nat.le_of_eq rfl) (hb hby d27_2) ?_
  intro v1 T1 X1 e1 hv1
  subst hv1
  show Gl p e below _ (T1.setTop (mkF m 5 #[.val (.ref x1), .val (.ref a2), .val (.int (4 : Int32)), .val (.int (0 : Int32))] [(.int (5 : Int32)), (.int (4 : Int32))]))
  refine Gl.of (fun _ kq_ => XS.icmpNo X1.here hx rfl (hb hby d27_5) rfl (tlt (by decide : (4 : Int32) < (5 : Int32))).2.1 kq_) ?_
  refine Gl.of (fun _ kq_ => XS.aloadN X1.here hx rfl (hb hby d27_8) rfl rfl kq_) ?_
  refine Gl.of (fun _ kq_ => XS.iloadN X1.here hx rfl (hb hby d27_9) rfl kq_) ?_
  refine Gl.callVB X1 hx hZ (y := (⟨"java/lang/String", "charAt", "(I)C"⟩ : MethodName)) (z := (⟨"java/lang/String", "charAt", "(I)C"⟩ : MethodName)) hown (w142 hw) (w143 hw) (notFace_of_selects (args := #[]) (mvT hZ (w145 hw))) (w145 hw) (w144 hw) (desc_ne (by decide)) (W := 0) (fun v => v = some (.int c11)) (b := x1) (argsL := [(.int (4 : Int32))]) (rest := []) SN.1 (StrChars.Road.chN (W := 0) hZ (own_wch hw) (kI := 4) (w7 hw) SN.1 SN.2.1 SN.2.2.1 SN.2.2.2.1 SN.cod SN.up (SC.ext O0.2) hcz (SF.ext O0.2) rf SN.2.2.2.2.2 (i := 4) (Nat.le_of_ble_eq_true rfl) (j := (4 : Int32)) rfl (by decide) (by decide)) (by decide) (by decide) e1 (by rw [hml]; rfl) pd_11 rfl rfl (Nat.le_of_eq rfl) (hb hby d27_10) ?_
  intro v2 T2 X2 e2 hv2
  subst hv2
  show Gl p e below _ (T2.setTop (mkF m 13 #[.val (.ref x1), .val (.ref a2), .val (.int (4 : Int32)), .val (.int (0 : Int32))] [(.int c11)]))
  refine Gl.of (fun _ kq_ => XS.aloadN X2.here hx rfl (hb hby d27_13) rfl rfl kq_) ?_
  refine Gl.of (fun _ kq_ => XS.iloadN X2.here hx rfl (hb hby d27_14) rfl kq_) ?_
  refine Gl.of (fun _ kq_ => XS.bipush X2.here hx rfl (hb hby d27_15) kq_) ?_
  refine Gl.of (fun _ kq_ => XS.iadd X2.here hx rfl (hb hby d27_17) rfl kq_) ?_
  show Gl p e below _ (T2.setTop (mkF m 18 #[.val (.ref x1), .val (.ref a2), .val (.int (4 : Int32)), .val (.int (0 : Int32))] [(.int (7 : Int32)), (.ref a2), (.int c11)]))
  refine Gl.of (fun _ kq_ => XS.iloadN X2.here hx rfl (hb hby d27_18) rfl kq_) ?_
  refine Gl.of (fun _ kq_ => XS.iadd X2.here hx rfl (hb hby d27_19) rfl kq_) ?_
  show Gl p e below _ (T2.setTop (mkF m 20 #[.val (.ref x1), .val (.ref a2), .val (.int (4 : Int32)), .val (.int (0 : Int32))] [(.int (11 : Int32)), (.ref a2), (.int c11)]))
  obtain ⟨zcl3, zAr3, zq3, zS3, zM3, zH3, zG3⟩ := id VQ
  refine Gl.of (fun _ kq_ => X2.caload hx (j := (11 : Int32)) (v := (.int c11)) (by rw [e2]; exact (zAr3).1) (State.isArrayOf_alike hZ.alike (zAr3).2.1) (zAr3).2.2 (inb_of zS3 ⟨by decide, by decide⟩) (zH3 11 (by rw [zS3]; decide)) (g := (mkF m 20 #[.val (.ref x1), .val (.ref a2), .val (.int (4 : Int32)), .val (.int (0 : Int32))] [(.int (11 : Int32)), (.ref a2), (.int c11)])) rfl rfl (hb hby d27_20) _ kq_) ?_
  show Gl p e below _ (T2.setTop (mkF m 21 #[.val (.ref x1), .val (.ref a2), .val (.int (4 : Int32)), .val (.int (0 : Int32))] [(.int c11), (.int c11)]))
  refine Gl.of (fun _ kq_ => XS.icmpNo X2.here hx rfl (hb hby d27_21) rfl (teq (rfl : c11 = c11)).2 kq_) ?_
  refine Gl.of (fun _ kq_ => XS.iconst X2.here hx rfl (hb hby d27_24) kq_) ?_
  refine Gl.of (fun _ kq_ => XS.goto X2.here hx rfl (pc0 := 25) (pc' := 29) rfl (hb hby d27_25) (by decide) (by decide) kq_) ?_
  exact Gl.retN X2 hx hlk hret (by simp) (hb hby d27_29) e2 (⟨rfl, rfl, rfl⟩) (by decide) (by decide)
theorem rmN1 (l : Launch) (Z : State) (a0 : Array Value) (hw : ∀ d ∈ tables_1, d.before a0 Z = true) (h0 : Heap) (t1 : Addr) (kb1 : ClassId) (c0 c1 c2 c3 c4 c5 c6 c7 c8 c9 c10 c11 : Int32) (n0 : Nat) (V1 : Arv Z h0 t1 kb1 .byte (Int32.ofNat 12) ((([c0, c1, c2, c3, c4, c5, c6, c7, c8, c9, c10, c11] : List Int32).map (fun c => c.toInt8.toInt32)).map Value.int) (.int 0)) (hfb : Z.vm.findClass "[B" = some kb1) (hr : ∀ c ∈ ([c0, c1, c2, c3, c4, c5, c6, c7, c8, c9, c10, c11] : List Int32), ¬ c < 0 ∧ ¬ (255 : Int32) < c) (O0 : Old Z n0 h0) : Con l Z (⟨"java/lang/StringLatin1", "newString", "([BII)Ljava/lang/String;"⟩ : MethodName) jdk_43_method_47_code 3 (some (.object "java/lang/String")) [] ({ frames := 4, cells := 2, slots := 16, locals := 98 } : Room) 2 16 #[(.ref t1), (.int (8 : Int32)), (.int (4 : Int32))] h0 (fun v h L => ∃ r t kb, v = some (.ref r) ∧ Strg Z h r t kb [c8, c9, c10, c11] ∧ Keep h0 h [] ∧ Fr n0 L) := by
  refine Con.intro (plainFor_of_name pn_1) ?_
  intro p e s m below meth c s₁ X0 hx hby hml hZ hown hnm hret hlk e0 hs0
  refine Gl.of (fun _ kq_ => castTop (ef_11 m t1 (8 : Int32) (4 : Int32)) kq_) ?_
  have K0 := Keep.refl h0 []
  show Gl p e below _ (s₁.setTop (mkF m 0 #[.val (.ref t1), .val (.int (8 : Int32)), .val (.int (4 : Int32))] []))
  refine Gl.of (fun _ kq_ => XS.iloadN X0.here hx rfl (hb hby d22_0) rfl kq_) ?_
  refine Gl.of (fun _ kq_ => XS.ifYes X0.here hx rfl (pc0 := 1) (pc' := 7) rfl (hb hby d22_1) rfl ((if0 _ _).trans (feq (by decide : ¬ ((4 : Int32) = (0 : Int32)))).2) (by decide) (by decide) kq_) ?_
  obtain ⟨T1, h1, X1, e1, E1, A1, D1, -, st1⟩ := newO X0 hx hZ hown (w118 hw) (w7 hw) (w8 hw) e0 (g := (mkF m 7 #[.val (.ref t1), .val (.int (8 : Int32)), .val (.int (4 : Int32))] [])) rfl (hb hby d22_7) (by decide) (by decide)
  obtain ⟨b1, g1⟩ : ∃ z, z = h0.size := ⟨_, rfl⟩
  rw [← g1] at A1 D1 st1
  refine Gl.of st1 ?_
  have Gb1 : n0 ≤ b1 := Nat.le_trans (O0.1 ▸ O0.2.1) (Nat.le_of_eq g1.symm)
  have Jb1 : h0.size ≤ b1 := Nat.le_trans K0.1 (Nat.le_of_eq g1.symm)
  have ne_t1_b1 : t1 ≠ b1 := Nat.ne_of_lt (Nat.lt_of_lt_of_le V1.lt (Nat.le_of_eq g1.symm))
  have vc2 := V1.ext E1
  have O1 := O0.ext E1
  have K1 := K0.ext E1
  have F1_coder : Fld Z h1 b1 "java/lang/String" "coder" "B" (.int (0 : Int32)) := D1 (Or.inr (w32 hw)) (ty := .byte) (by decide)
  have F1_value : Fld Z h1 b1 "java/lang/String" "value" "[B" .null := D1 (Or.inr (w34 hw)) (ty := (.array .byte)) (by decide)
  show Gl p e below _ (T1.setTop (mkF m 10 #[.val (.ref t1), .val (.int (8 : Int32)), .val (.int (4 : Int32))] [(.ref b1)]))
  refine Gl.of (fun _ kq_ => XS.dup X1.here hx rfl (hb hby d22_10) rfl rfl kq_) ?_
  refine Gl.of (fun _ kq_ => XS.aloadN X1.here hx rfl (hb hby d22_11) rfl rfl kq_) ?_
  refine Gl.of (fun _ kq_ => XS.iloadN X1.here hx rfl (hb hby d22_12) rfl kq_) ?_
  refine Gl.of (fun _ kq_ => XS.iloadN X1.here hx rfl (hb hby d22_13) rfl kq_) ?_
  refine Gl.of (fun _ kq_ => XS.iloadN X1.here hx rfl (hb hby d22_14) rfl kq_) ?_
  refine Gl.of (fun _ kq_ => XS.iadd X1.here hx rfl (hb hby d22_15) rfl kq_) ?_
  show Gl p e below _ (T1.setTop (mkF m 16 #[.val (.ref t1), .val (.int (8 : Int32)), .val (.int (4 : Int32))] [(.int (12 : Int32)), (.int (8 : Int32)), (.ref t1), (.ref b1), (.ref b1)]))
  refine Gl.callCor X1 hx hZ hown (w119 hw) (w120 hw) (w121 hw) (w122 hw) (own_cor hw) vc2 hfb (fr := 8) (to := 12) (cap := 12) rfl (by decide) (by decide) (by decide) (by decide) (by decide) (vs' := (([c8, c9, c10, c11] : List Int32).map (fun c => c.toInt8.toInt32)).map Value.int) rfl (n := 4) rfl (by decide) (W := 2) (rest := [(.ref b1), (.ref b1)]) (by decide) (by decide) (by decide) (by decide) e1 rfl rfl (by rw [hml]; rfl) rfl (Nat.le_of_eq rfl) (hb hby d22_16) ?_
  intro r3 T3 X3 E3 Gr3 Vr3
  have ne_t1_r3 : t1 ≠ r3 := Nat.ne_of_lt (Nat.lt_of_lt_of_le vc2.lt Gr3)
  have ne_b1_r3 : b1 ≠ r3 := Nat.ne_of_lt (Nat.lt_of_lt_of_le A1.lt Gr3)
  have vc4 := vc2.ext E3
  have ec5 := A1.ext E3
  have fc6 := F1_coder.ext E3
  have fc7 := F1_value.ext E3
  have O3 := O1.ext E3
  have K3 := K1.ext E3
  show Gl p e below _ (T3.setTop (mkF m 19 #[.val (.ref t1), .val (.int (8 : Int32)), .val (.int (4 : Int32))] [(.ref r3), (.ref b1), (.ref b1)]))
  refine Gl.of (fun _ kq_ => XS.iconst X3.here hx rfl (hb hby d22_19) kq_) ?_
  refine Gl.callI X3 hx hZ (y := (⟨"java/lang/String", "<init>", "([BB)V"⟩ : MethodName)) rfl hown (w137 hw) (w50 hw) (w8 hw) (w51 hw) (desc_ne (by decide)) (rm := { frames := 1, cells := 0, slots := 0, locals := 13 }) (b := b1) (argsL := [(.ref r3), (.int (0 : Int32))]) (rest := [(.ref b1)]) (rmB l Z a0 hw _ b1 r3 n0 ec5 fc7 fc6 Gb1 O3) 1 (by decide) (by decide) (by decide) (by decide) rfl (by rw [hml]; rfl) pd_2 rfl rfl (Nat.le_of_eq rfl) (hb hby d22_20) ?_
  intro v8 T8 L8 X8 hQ8
  obtain ⟨rfl, Nq8, Kq8, Fv8, Fc8⟩ := hQ8
  have N8 := Fr.app (Fr.nil n0) Nq8
  have vc9 := vc4.keep Kq8 (fun q => ne_t1_b1 (List.mem_singleton.mp q))
  have ec10 := ec5.keep Kq8
  have vc11 := Vr3.keep Kq8 (fun q => ne_b1_r3.symm (List.mem_singleton.mp q))
  have O8 := O3.keep Kq8 (allS Gb1 all0)
  have K8 := K3.trans Kq8 (by intro x hx'; cases List.mem_singleton.mp hx'; exact Or.inr Jb1)
  show Gl p e below _ (T8.setTop (mkF m 23 #[.val (.ref t1), .val (.int (8 : Int32)), .val (.int (4 : Int32))] [(.ref b1)]))
  exact Gl.retR X8 hx hlk hret rfl rfl (hb hby d22_23) rfl (⟨_, _, _, rfl, ⟨ec10, Fv8, Fc8, vc11, (fun c hc => hr c (by simp at hc ⊢; grind)), Nat.le_of_ble_eq_true rfl⟩, K8, N8⟩) (by decide) (by decide)
theorem rmS1 (l : Launch) (Z : State) (a0 : Array Value) (hw : ∀ d ∈ tables_1, d.before a0 Z = true) (h0 : Heap) (x1 t1 : Addr) (kb1 : ClassId) (c0 c1 c2 c3 c4 c5 c6 c7 c8 c9 c10 c11 : Int32) (cz : Int32) (fm : Value) (n0 : Nat) (SN : Strg Z h0 x1 t1 kb1 [c0, c1, c2, c3, c4, c5, c6, c7, c8, c9, c10, c11]) (hfb : Z.vm.findClass "[B" = some kb1) (SC : Sta Z Z.heap "java/lang/String" "COMPACT_STRINGS" "Z" (.int cz)) (hcz : ¬ cz = 0) (SF : Sta Z Z.heap "jdk/internal/util/Preconditions" "SIOOBE_FORMATTER" "Ljava/util/function/BiFunction;" fm) (rf : fm.isRef = true) (O0 : Old Z n0 h0) : Con l Z (⟨"java/lang/String", "substring", "(II)Ljava/lang/String;"⟩ : MethodName) jdk_42_method_92_code 5 (some (.object "java/lang/String")) [] ({ frames := 5, cells := 2, slots := 16, locals := 113 } : Room) 2 16 #[(.ref x1), (.int (8 : Int32)), (.int (12 : Int32))] h0 (fun v h L => ∃ r t kb, v = some (.ref r) ∧ Strg Z h r t kb [c8, c9, c10, c11] ∧ Keep h0 h [] ∧ Fr n0 L) := by
  refine Con.intro (plainFor_of_name pn_2) ?_
  intro p e s m below meth c s₁ X0 hx hby hml hZ hown hnm hret hlk e0 hs0
  refine Gl.of (fun _ kq_ => castTop (ef_12 m x1 (8 : Int32) (12 : Int32)) kq_) ?_
  have K0 := Keep.refl h0 []
  show Gl p e below _ (s₁.setTop (mkF m 0 #[.val (.ref x1), .val (.int (8 : Int32)), .val (.int (12 : Int32)), .unset, .unset] []))
  refine Gl.of (fun _ kq_ => XS.aloadN X0.here hx rfl (hb hby d18_0) rfl rfl kq_) ?_
  refine Gl.callVB X0 hx hZ (y := (⟨"java/lang/String", "length", "()I"⟩ : MethodName)) (z := (⟨"java/lang/String", "length", "()I"⟩ : MethodName)) hown (w96 hw) (w79 hw) (notFace_of_selects (args := #[]) (mvT hZ (w81 hw))) (w81 hw) (w80 hw) (desc_ne (by decide)) (W := 0) (fun v => v = some (.int (12 : Int32))) (b := x1) (argsL := []) (rest := []) SN.1 (StrChars.Road.lenW (W := 0) hZ (own_wln hw) (kI := 4) (w7 hw) SN.1 SN.2.1 SN.2.2.1 SN.2.2.2.1 SN.cod SN.up (SC.ext O0.2) hcz SN.2.2.2.2.2 (by decide) (by decide)) (by decide) (by decide) e0 (by rw [hml]; rfl) pd_5 rfl rfl (Nat.le_of_eq rfl) (hb hby d18_1) ?_
  intro v1 T1 X1 e1 hv1
  subst hv1
  show Gl p e below _ (T1.setTop (mkF m 4 #[.val (.ref x1), .val (.int (8 : Int32)), .val (.int (12 : Int32)), .unset, .unset] [(.int (12 : Int32))]))
  refine Gl.of (fun _ kq_ => XS.istoreN X1.here hx rfl (hb hby d18_4) rfl (l' := #[.val (.ref x1), .val (.int (8 : Int32)), .val (.int (12 : Int32)), .val (.int (12 : Int32)), .unset]) rfl kq_) ?_
  refine Gl.of (fun _ kq_ => XS.iloadN X1.here hx rfl (hb hby d18_5) rfl kq_) ?_
  refine Gl.of (fun _ kq_ => XS.iloadN X1.here hx rfl (hb hby d18_6) rfl kq_) ?_
  refine Gl.of (fun _ kq_ => XS.iloadN X1.here hx rfl (hb hby d18_7) rfl kq_) ?_
  refine Gl.callS0 X1 hx hZ (y := (⟨"java/lang/String", "checkBoundsBeginEnd", "(III)V"⟩ : MethodName)) hown (w102 hw) (w103 hw) (w8 hw) (w104 hw) (desc_ne (by decide)) (argsL := [(.int (8 : Int32)), (.int (12 : Int32)), (.int (12 : Int32))]) (rest := []) (rmG l Z a0 hw _ (8 : Int32) (12 : Int32) (12 : Int32) fm n0 SF rf (by decide) (by decide) (by decide) O0) 0 (by decide) (by decide) e1 (by rw [hml]; rfl) pd_6 rfl rfl (Nat.le_of_eq rfl) (hb hby d18_8) (by decide) (by decide) ?_
  intro v2 T2 X2 e2 hv2
  subst hv2
  show Gl p e below _ (T2.setTop (mkF m 11 #[.val (.ref x1), .val (.int (8 : Int32)), .val (.int (12 : Int32)), .val (.int (12 : Int32)), .unset] []))
  refine Gl.of (fun _ kq_ => XS.iloadN X2.here hx rfl (hb hby d18_11) rfl kq_) ?_
  refine Gl.of (fun _ kq_ => XS.ifYes X2.here hx rfl (pc0 := 12) (pc' := 22) rfl (hb hby d18_12) rfl ((if0 _ _).trans (feq (by decide : ¬ ((8 : Int32) = (0 : Int32)))).2) (by decide) (by decide) kq_) ?_
  refine Gl.of (fun _ kq_ => XS.iloadN X2.here hx rfl (hb hby d18_22) rfl kq_) ?_
  refine Gl.of (fun _ kq_ => XS.iloadN X2.here hx rfl (hb hby d18_23) rfl kq_) ?_
  refine Gl.of (fun _ kq_ => XS.isub X2.here hx rfl (hb hby d18_24) rfl kq_) ?_
  show Gl p e below _ (T2.setTop (mkF m 25 #[.val (.ref x1), .val (.int (8 : Int32)), .val (.int (12 : Int32)), .val (.int (12 : Int32)), .unset] [(.int (4 : Int32))]))
  refine Gl.of (fun _ kq_ => XS.istore X2.here hx rfl (hb hby d18_25) rfl (l' := #[.val (.ref x1), .val (.int (8 : Int32)), .val (.int (12 : Int32)), .val (.int (12 : Int32)), .val (.int (4 : Int32))]) rfl kq_) ?_
  refine Gl.of (fun _ kq_ => XS.aloadN X2.here hx rfl (hb hby d18_27) rfl rfl kq_) ?_
  refine Gl.callV0 X2 hx hZ (y := (⟨"java/lang/String", "isLatin1", "()Z"⟩ : MethodName)) (z := (⟨"java/lang/String", "isLatin1", "()Z"⟩ : MethodName)) hown (w110 hw) (w111 hw) (notFace_of_selects (args := #[]) (mvT hZ (w113 hw))) (w113 hw) (w112 hw) (w114 hw) (w8 hw) (desc_ne (by decide)) (b := x1) (argsL := []) (rest := []) SN.1 (rmL l Z a0 hw _ x1 cz n0 SN.2.2.1 SC hcz O0) 0 (by decide) (by decide) e2 (by rw [hml]; rfl) pd_7 rfl rfl (Nat.le_of_eq rfl) (hb hby d18_28) (by decide) (by decide) ?_
  intro v3 T3 X3 e3 hv3
  subst hv3
  show Gl p e below _ (T3.setTop (mkF m 31 #[.val (.ref x1), .val (.int (8 : Int32)), .val (.int (12 : Int32)), .val (.int (12 : Int32)), .val (.int (4 : Int32))] [(.int (1 : Int32))]))
  refine Gl.of (fun _ kq_ => XS.ifNo X3.here hx rfl (hb hby d18_31) rfl ((if0 _ _).trans (feq (by decide : ¬ ((1 : Int32) = (0 : Int32)))).1) kq_) ?_
  refine Gl.of (fun _ kq_ => XS.aloadN X3.here hx rfl (hb hby d18_34) rfl rfl kq_) ?_
  obtain ⟨T4, X4, e4, st4⟩ := getF X3 hx hZ hown (host := "") (Or.inl (w33 hw)) Via.refl e3 SN.2.1 (g := (mkF m 35 #[.val (.ref x1), .val (.int (8 : Int32)), .val (.int (12 : Int32)), .val (.int (12 : Int32)), .val (.int (4 : Int32))] [(.ref x1)])) rfl rfl (hb hby d18_35)
  refine Gl.of st4 ?_
  show Gl p e below _ (T4.setTop (mkF m 38 #[.val (.ref x1), .val (.int (8 : Int32)), .val (.int (12 : Int32)), .val (.int (12 : Int32)), .val (.int (4 : Int32))] [(.ref t1)]))
  refine Gl.of (fun _ kq_ => XS.iloadN X4.here hx rfl (hb hby d18_38) rfl kq_) ?_
  refine Gl.of (fun _ kq_ => XS.iload X4.here hx rfl (hb hby d18_39) rfl kq_) ?_
  refine Gl.callS X4 hx hZ (y := (⟨"java/lang/StringLatin1", "newString", "([BII)Ljava/lang/String;"⟩ : MethodName)) hown (w115 hw) (w116 hw) (w43 hw) (w117 hw) (desc_ne (by decide)) (rm := { frames := 4, cells := 2, slots := 16, locals := 98 }) (argsL := [(.ref t1), (.int (8 : Int32)), (.int (4 : Int32))]) (rest := []) (rmN1 l Z a0 hw _ t1 kb1 c0 c1 c2 c3 c4 c5 c6 c7 c8 c9 c10 c11 n0 SN.2.2.2.1 hfb SN.2.2.2.2.1 O0) 0 (by decide) (by decide) (by decide) (by decide) e4 (by rw [hml]; rfl) pd_8 rfl rfl (Nat.le_of_eq rfl) (hb hby d18_41) ?_
  intro v5 T5 L5 X5 hQ5
  obtain ⟨r5, t5, kb5, rfl, SG5, Kq5, Nq5⟩ := hQ5
  have N5 := Fr.app (Fr.nil n0) Nq5
  have gc6 := SN.keep Kq5 (by simp) (by simp)
  have ec7 := SN.1.keep Kq5
  have fc8 := SN.2.1.keep Kq5 (by simp)
  have fc9 := SN.2.2.1.keep Kq5 (by simp)
  have O5 := O0.keep Kq5 all0
  have K5 := K0.trans Kq5 (by intro x hx'; exact nomatch hx')
  show Gl p e below _ (T5.setTop (mkF m 44 #[.val (.ref x1), .val (.int (8 : Int32)), .val (.int (12 : Int32)), .val (.int (12 : Int32)), .val (.int (4 : Int32))] [(.ref r5)]))
  refine Gl.of (fun _ kq_ => XS.goto X5.here hx rfl (pc0 := 44) (pc' := 57) rfl (hb hby d18_44) (by decide) (by decide) kq_) ?_
  exact Gl.retR X5 hx hlk hret rfl rfl (hb hby d18_57) rfl (⟨_, _, _, rfl, SG5, K5, N5⟩) (by decide) (by decide)
theorem rmU1 (l : Launch) (Z : State) (a0 : Array Value) (hw : ∀ d ∈ tables_1, d.before a0 Z = true) (h0 : Heap) (x1 t1 : Addr) (kb1 : ClassId) (c0 c1 c2 c3 c4 c5 c6 c7 c8 c9 c10 c11 : Int32) (cz : Int32) (fm : Value) (n0 : Nat) (SN : Strg Z h0 x1 t1 kb1 [c0, c1, c2, c3, c4, c5, c6, c7, c8, c9, c10, c11]) (hfb : Z.vm.findClass "[B" = some kb1) (SC : Sta Z Z.heap "java/lang/String" "COMPACT_STRINGS" "Z" (.int cz)) (hcz : ¬ cz = 0) (SF : Sta Z Z.heap "jdk/internal/util/Preconditions" "SIOOBE_FORMATTER" "Ljava/util/function/BiFunction;" fm) (rf : fm.isRef = true) (O0 : Old Z n0 h0) : Con l Z (⟨"java/lang/String", "substring", "(I)Ljava/lang/String;"⟩ : MethodName) jdk_42_method_91_code 2 (some (.object "java/lang/String")) [] ({ frames := 6, cells := 2, slots := 16, locals := 131 } : Room) 2 16 #[(.ref x1), (.int (8 : Int32))] h0 (fun v h L => ∃ r t kb, v = some (.ref r) ∧ Strg Z h r t kb [c8, c9, c10, c11] ∧ Keep h0 h [] ∧ Fr n0 L) := by
  refine Con.intro (plainFor_of_name pn_2) ?_
  intro p e s m below meth c s₁ X0 hx hby hml hZ hown hnm hret hlk e0 hs0
  refine Gl.of (fun _ kq_ => castTop (ef_13 m x1 (8 : Int32)) kq_) ?_
  have K0 := Keep.refl h0 []
  show Gl p e below _ (s₁.setTop (mkF m 0 #[.val (.ref x1), .val (.int (8 : Int32))] []))
  refine Gl.of (fun _ kq_ => XS.aloadN X0.here hx rfl (hb hby d17_0) rfl rfl kq_) ?_
  refine Gl.of (fun _ kq_ => XS.iloadN X0.here hx rfl (hb hby d17_1) rfl kq_) ?_
  refine Gl.of (fun _ kq_ => XS.aloadN X0.here hx rfl (hb hby d17_2) rfl rfl kq_) ?_
  refine Gl.callVB X0 hx hZ (y := (⟨"java/lang/String", "length", "()I"⟩ : MethodName)) (z := (⟨"java/lang/String", "length", "()I"⟩ : MethodName)) hown (w96 hw) (w79 hw) (notFace_of_selects (args := #[]) (mvT hZ (w81 hw))) (w81 hw) (w80 hw) (desc_ne (by decide)) (W := 2) (fun v => v = some (.int (12 : Int32))) (b := x1) (argsL := []) (rest := [(.int (8 : Int32)), (.ref x1)]) SN.1 (StrChars.Road.lenW (W := 2) hZ (own_wln hw) (kI := 4) (w7 hw) SN.1 SN.2.1 SN.2.2.1 SN.2.2.2.1 SN.cod SN.up (SC.ext O0.2) hcz SN.2.2.2.2.2 (by decide) (by decide)) (by decide) (by decide) e0 (by rw [hml]; rfl) pd_5 rfl rfl (Nat.le_of_eq rfl) (hb hby d17_3) ?_
  intro v1 T1 X1 e1 hv1
  subst hv1
  show Gl p e below _ (T1.setTop (mkF m 6 #[.val (.ref x1), .val (.int (8 : Int32))] [(.int (12 : Int32)), (.int (8 : Int32)), (.ref x1)]))
  refine Gl.callV X1 hx hZ (y := (⟨"java/lang/String", "substring", "(II)Ljava/lang/String;"⟩ : MethodName)) (z := (⟨"java/lang/String", "substring", "(II)Ljava/lang/String;"⟩ : MethodName)) hown (w97 hw) (w98 hw) (notFace_of_selects (args := #[]) (mvT hZ (w100 hw))) (w100 hw) (w99 hw) (w101 hw) (w8 hw) (desc_ne (by decide)) (rm := { frames := 5, cells := 2, slots := 16, locals := 113 }) (b := x1) (argsL := [(.int (8 : Int32)), (.int (12 : Int32))]) (rest := []) SN.1 (rmS1 l Z a0 hw _ x1 t1 kb1 c0 c1 c2 c3 c4 c5 c6 c7 c8 c9 c10 c11 cz fm n0 SN hfb SC hcz SF rf O0) 0 (by decide) (by decide) (by decide) (by decide) e1 (by rw [hml]; rfl) pd_9 rfl rfl (Nat.le_of_eq rfl) (hb hby d17_6) ?_
  intro v2 T2 L2 X2 hQ2
  obtain ⟨r2, t2, kb2, rfl, SG2, Kq2, Nq2⟩ := hQ2
  have N2 := Fr.app (Fr.nil n0) Nq2
  have gc3 := SN.keep Kq2 (by simp) (by simp)
  have ec4 := SN.1.keep Kq2
  have fc5 := SN.2.1.keep Kq2 (by simp)
  have fc6 := SN.2.2.1.keep Kq2 (by simp)
  have O2 := O0.keep Kq2 all0
  have K2 := K0.trans Kq2 (by intro x hx'; exact nomatch hx')
  show Gl p e below _ (T2.setTop (mkF m 9 #[.val (.ref x1), .val (.int (8 : Int32))] [(.ref r2)]))
  exact Gl.retR X2 hx hlk hret rfl rfl (hb hby d17_9) rfl (⟨_, _, _, rfl, SG2, K2, N2⟩) (by decide) (by decide)
theorem rmC1 (l : Launch) (Z : State) (a0 : Array Value) (hw : ∀ d ∈ tables_1, d.before a0 Z = true) (h0 : Heap) (a1 : Addr) (x1 t1 : Addr) (kb1 : ClassId) (c0 c1 c2 c3 c4 c5 c6 c7 c8 c9 c10 c11 : Int32) (cz : Int32) (fm : Value) (n0 : Nat) (Fq : Fld Z h0 a1 "com/example/rulr/rulr/policy/SqlCondition$Membership" "query" "Ljava/lang/String;" (.ref x1)) (Fs : Fld Z h0 a1 "com/example/rulr/rulr/policy/SqlCondition$Membership" "selected" "I" (.int (1 : Int32))) (SN : Strg Z h0 x1 t1 kb1 [c0, c1, c2, c3, c4, c5, c6, c7, c8, c9, c10, c11]) (hfb : Z.vm.findClass "[B" = some kb1) (SC : Sta Z Z.heap "java/lang/String" "COMPACT_STRINGS" "Z" (.int cz)) (hcz : ¬ cz = 0) (SF : Sta Z Z.heap "jdk/internal/util/Preconditions" "SIOOBE_FORMATTER" "Ljava/util/function/BiFunction;" fm) (rf : fm.isRef = true) (O0 : Old Z n0 h0) : ConH l Z own_EL (⟨"com/example/rulr/rulr/policy/SqlCondition$Membership", "condition", "()Ljava/lang/String;"⟩ : MethodName) prog_56_method_5_code 1 (some (.object "java/lang/String")) [] ({ frames := 7, cells := 4, slots := 48, locals := 145 } : Room) 4 48 #[(.ref a1)] h0 (fun v h L => ∃ r t kb, v = some (.ref r) ∧ Strg Z h r t kb [c8, c9, c10, c11] ∧ Keep h0 h [] ∧ Fr n0 L) := by
  refine ConH.intro (plainFor_of_name pn_4) ?_
  intro p e s m below meth c s₁ X0 hx hby hml hZ hown hnm hret hlk e0 hs0 hR0
  refine Gl.of (fun _ kq_ => castTop (ef_14 m a1) kq_) ?_
  have hS0 := (State.WarmedH.refl s).since 0
  have hk0 : 0 ≤ h0.size := Nat.zero_le _
  have K0 := Keep.refl h0 []
  show Gl p e below _ (s₁.setTop (mkF m 0 #[.val (.ref a1)] []))
  refine Gl.of (fun _ kq_ => XS.aloadN X0.here hx rfl (hb hby d14_0) rfl rfl kq_) ?_
  obtain ⟨T1, X1, e1, st1⟩ := getF X0 hx hZ hown (host := "") (Or.inl (w67 hw)) Via.refl e0 Fs (g := (mkF m 1 #[.val (.ref a1)] [(.ref a1)])) rfl rfl (hb hby d14_1)
  refine Gl.of st1 ?_
  show Gl p e below _ (T1.setTop (mkF m 4 #[.val (.ref a1)] [(.int (1 : Int32))]))
  refine Gl.of (fun _ kq_ => XS.aloadN X1.here hx rfl (hb hby d14_4) rfl rfl kq_) ?_
  obtain ⟨T2, X2, e2, st2⟩ := getF X1 hx hZ hown (host := "") (Or.inl (w63 hw)) Via.refl e1 Fq (g := (mkF m 5 #[.val (.ref a1)] [(.ref a1), (.int (1 : Int32))])) rfl rfl (hb hby d14_5)
  refine Gl.of st2 ?_
  show Gl p e below _ (T2.setTop (mkF m 8 #[.val (.ref a1)] [(.ref x1), (.int (1 : Int32))]))
  refine Gl.callVB X2 hx hZ (y := (⟨"java/lang/String", "length", "()I"⟩ : MethodName)) (z := (⟨"java/lang/String", "length", "()I"⟩ : MethodName)) hown (w78 hw) (w79 hw) (notFace_of_selects (args := #[]) (mvT hZ (w81 hw))) (w81 hw) (w80 hw) (desc_ne (by decide)) (W := 1) (fun v => v = some (.int (12 : Int32))) (b := x1) (argsL := []) (rest := [(.int (1 : Int32))]) SN.1 (StrChars.Road.lenW (W := 1) hZ (own_wln hw) (kI := 4) (w7 hw) SN.1 SN.2.1 SN.2.2.1 SN.2.2.2.1 SN.cod SN.up (SC.ext O0.2) hcz SN.2.2.2.2.2 (by decide) (by decide)) (by decide) (by decide) e2 (by rw [hml]; rfl) pd_5 rfl rfl (Nat.le_of_eq rfl) (hb hby d14_8) ?_
  intro v3 T3 X3 e3 hv3
  subst hv3
  show Gl p e below _ (T3.setTop (mkF m 11 #[.val (.ref a1)] [(.int (12 : Int32)), (.int (1 : Int32))]))
  refine Gl.of (fun _ kq_ => XS.icmpYes X3.here hx rfl (pc0 := 11) (pc' := 18) rfl (hb hby d14_11) rfl (feq (by decide : ¬ ((1 : Int32) = (12 : Int32)))).2 (by decide) (by decide) kq_) ?_
  refine Gl.of (fun _ kq_ => XS.aloadN X3.here hx rfl (hb hby d14_18) rfl rfl kq_) ?_
  obtain ⟨T4, X4, e4, st4⟩ := getF X3 hx hZ hown (host := "") (Or.inl (w63 hw)) Via.refl e3 Fq (g := (mkF m 19 #[.val (.ref a1)] [(.ref a1)])) rfl rfl (hb hby d14_19)
  refine Gl.of st4 ?_
  show Gl p e below _ (T4.setTop (mkF m 22 #[.val (.ref a1)] [(.ref x1)]))
  refine Gl.of (fun _ kq_ => XS.aloadN X4.here hx rfl (hb hby d14_22) rfl rfl kq_) ?_
  obtain ⟨T5, X5, e5, st5⟩ := getF X4 hx hZ hown (host := "") (Or.inl (w67 hw)) Via.refl e4 Fs (g := (mkF m 23 #[.val (.ref a1)] [(.ref a1), (.ref x1)])) rfl rfl (hb hby d14_23)
  refine Gl.of st5 ?_
  show Gl p e below _ (T5.setTop (mkF m 26 #[.val (.ref a1)] [(.int (1 : Int32)), (.ref x1)]))
  obtain ⟨b6, T6, h6, k6, t6, kb6, X6, e6, E6, hS6, hk6, hZ, hown, Ea6, Ca6, Va6, Ba6, -, -, rr6, Li6, sf6, st6⟩ := ldcCH X5 hx hZ hown (w88 hw) (own_str hw) e5 hS0 hk0 (own_el hw) (by decide) hR0.1 (vs := (own_wh.map (fun c => c.toInt8.toInt32)).map Value.int) (z := Int32.ofNat own_wh.length) ⟨by decide, rfl⟩ (by decide) (by decide) (g := (mkF m 26 #[.val (.ref a1)] [(.int (1 : Int32)), (.ref x1)])) rfl (hb hby d14_26) (n := 28) (by decide) (by decide) (by decide) (by decide)
  refine Gl.of st6 ?_
  have hR6 := hR0.trans rr6
  have SG6 : Strg Z h6 b6 t6 kb6 own_wh := ⟨Ea6, Va6, Ca6, Ba6, by decide, by decide⟩
  have fc7 := Fq.ext E6
  have fc8 := Fs.ext E6
  have gc9 := SN.ext E6
  have ec10 := SN.1.ext E6
  have O6 := O0.ext E6
  have K6 := K0.ext E6
  show Gl p e below _ (T6.setTop (mkF m 28 #[.val (.ref a1)] [(.ref b6), (.int (1 : Int32)), (.ref x1)]))
  refine Gl.callVB X6 hx hZ (y := (⟨"java/lang/String", "length", "()I"⟩ : MethodName)) (z := (⟨"java/lang/String", "length", "()I"⟩ : MethodName)) hown (w78 hw) (w79 hw) (notFace_of_selects (args := #[]) (mvT hZ (w81 hw))) (w81 hw) (w80 hw) (desc_ne (by decide)) (W := 2) (fun v => v = some (.int (7 : Int32))) (b := b6) (argsL := []) (rest := [(.int (1 : Int32)), (.ref x1)]) SG6.1 (StrChars.Road.lenW (W := 2) hZ (own_wln hw) (kI := 4) (w7 hw) SG6.1 SG6.2.1 SG6.2.2.1 SG6.2.2.2.1 SG6.cod SG6.up (SC.ext O6.2) hcz SG6.2.2.2.2.2 (by decide) (by decide)) (by decide) (by decide) e6 (by rw [hml]; rfl) pd_5 rfl rfl (Nat.le_of_eq rfl) (hb hby d14_28) ?_
  intro v11 T11 X11 e11 hv11
  subst hv11
  show Gl p e below _ (T11.setTop (mkF m 31 #[.val (.ref a1)] [(.int (7 : Int32)), (.int (1 : Int32)), (.ref x1)]))
  refine Gl.of (fun _ kq_ => XS.iadd X11.here hx rfl (hb hby d14_31) rfl kq_) ?_
  show Gl p e below _ (T11.setTop (mkF m 32 #[.val (.ref a1)] [(.int (8 : Int32)), (.ref x1)]))
  refine Gl.callV X11 hx hZ (y := (⟨"java/lang/String", "substring", "(I)Ljava/lang/String;"⟩ : MethodName)) (z := (⟨"java/lang/String", "substring", "(I)Ljava/lang/String;"⟩ : MethodName)) hown (w91 hw) (w92 hw) (notFace_of_selects (args := #[]) (mvT hZ (w94 hw))) (w94 hw) (w93 hw) (w95 hw) (w8 hw) (desc_ne (by decide)) (rm := { frames := 6, cells := 2, slots := 16, locals := 131 }) (b := x1) (argsL := [(.int (8 : Int32))]) (rest := []) ec10 (rmU1 l Z a0 hw _ x1 t1 kb1 c0 c1 c2 c3 c4 c5 c6 c7 c8 c9 c10 c11 cz fm n0 gc9 hfb SC hcz SF rf O6) 0 (by decide) (by decide) (by decide) (by decide) e11 (by rw [hml]; rfl) pd_10 rfl rfl (Nat.le_of_eq rfl) (hb hby d14_32) ?_
  intro v12 T12 L12 X12 hQ12
  obtain ⟨r12, t12, kb12, rfl, SG12, Kq12, Nq12⟩ := hQ12
  have N12 := Fr.app (Fr.nil n0) Nq12
  have fc13 := fc7.keep Kq12 (by simp)
  have fc14 := fc8.keep Kq12 (by simp)
  have gc15 := gc9.keep Kq12 (by simp) (by simp)
  have ec16 := ec10.keep Kq12
  have gc17 := SG6.keep Kq12 (by simp) (by simp)
  have O12 := O6.keep Kq12 all0
  have K12 := K6.trans Kq12 (by intro x hx'; exact nomatch hx')
  have hk12 := Nat.le_trans hk6 Kq12.1
  have hRs := hR6.trans (CHr.keep Kq12 (fun x hx => nomatch hx) hR6.1)
  show Gl p e below _ (T12.setTop (mkF m 35 #[.val (.ref a1)] [(.ref r12)]))
  exact Gl.retRH X12 hx hlk hret rfl rfl (hb hby d14_35) rfl (⟨_, _, _, rfl, SG12, K12, N12⟩) hS6 hk12 hZ (own_el hw) hRs (by decide) (by decide)
theorem rmA10 (l : Launch) (Z : State) (a0 : Array Value) (hw : ∀ d ∈ tables_1, d.before a0 Z = true) (h0 : Heap) (x1 t1 a2 : Addr) (kb1 kq : ClassId) (c0 c1 c2 c3 c4 c5 c6 c7 c8 c9 c10 c11 : Int32) (cz : Int32) (fm : Value) (n0 : Nat) (SN : Strg Z h0 x1 t1 kb1 [c8, c9, c10, c11]) (VQ : Arv Z h0 a2 kq .char (12 : Int32) [.int c0, .int c1, .int c2, .int c3, .int c4, .int c5, .int c6, .int c7, .int c8, .int c9, .int c10, .int c11] (.int 0)) (SC : Sta Z Z.heap "java/lang/String" "COMPACT_STRINGS" "Z" (.int cz)) (hcz : ¬ cz = 0) (SF : Sta Z Z.heap "jdk/internal/util/Preconditions" "SIOOBE_FORMATTER" "Ljava/util/function/BiFunction;" fm) (rf : fm.isRef = true) (O0 : Old Z n0 h0) : Con l Z (⟨"com/example/rulr/rulr/policy/MembershipConditionPinLaw", "at", "(Ljava/lang/String;[CII)Z"⟩ : MethodName) method_3_code 4 (some .boolean) [] ({ frames := 4, cells := 0, slots := 0, locals := 60 } : Room) 0 0 #[(.ref x1), (.ref a2), (.int (0 : Int32)), (.int (1 : Int32))] h0 (Pur (fun v => v = some (.int 1)) h0) := by
  refine Con.intro (plainFor_of_name pn_0) ?_
  intro p e s m below meth c s₁ X0 hx hby hml hZ hown hnm hret hlk e0 hs0
  refine Gl.of (fun _ kq_ => castTop (ef_15 m x1 a2 (0 : Int32) (1 : Int32)) kq_) ?_
  show Gl p e below _ (s₁.setTop (mkF m 0 #[.val (.ref x1), .val (.ref a2), .val (.int (0 : Int32)), .val (.int (1 : Int32))] []))
  refine Gl.of (fun _ kq_ => XS.iloadN X0.here hx rfl (hb hby d27_0) rfl kq_) ?_
  refine Gl.of (fun _ kq_ => XS.aloadN X0.here hx rfl (hb hby d27_1) rfl rfl kq_) ?_
  refine Gl.callVB X0 hx hZ (y := (⟨"java/lang/String", "length", "()I"⟩ : MethodName)) (z := (⟨"java/lang/String", "length", "()I"⟩ : MethodName)) hown (w138 hw) (w79 hw) (notFace_of_selects (args := #[]) (mvT hZ (w81 hw))) (w81 hw) (w80 hw) (desc_ne (by decide)) (W := 1) (fun v => v = some (.int (4 : Int32))) (b := x1) (argsL := []) (rest := [(.int (0 : Int32))]) SN.1 (StrChars.Road.lenW (W := 1) hZ (own_wln hw) (kI := 4) (w7 hw) SN.1 SN.2.1 SN.2.2.1 SN.2.2.2.1 SN.cod SN.up (SC.ext O0.2) hcz SN.2.2.2.2.2 (by decide) (by decide)) (by decide) (by decide) e0 (by rw [hml]; rfl) pd_5 rfl rfl (Nat.le_of_eq rfl) (hb hby d27_2) ?_
  intro v1 T1 X1 e1 hv1
  subst hv1
  show Gl p e below _ (T1.setTop (mkF m 5 #[.val (.ref x1), .val (.ref a2), .val (.int (0 : Int32)), .val (.int (1 : Int32))] [(.int (4 : Int32)), (.int (0 : Int32))]))
  refine Gl.of (fun _ kq_ => XS.icmpNo X1.here hx rfl (hb hby d27_5) rfl (tlt (by decide : (0 : Int32) < (4 : Int32))).2.1 kq_) ?_
  refine Gl.of (fun _ kq_ => XS.aloadN X1.here hx rfl (hb hby d27_8) rfl rfl kq_) ?_
  refine Gl.of (fun _ kq_ => XS.iloadN X1.here hx rfl (hb hby d27_9) rfl kq_) ?_
  refine Gl.callVB X1 hx hZ (y := (⟨"java/lang/String", "charAt", "(I)C"⟩ : MethodName)) (z := (⟨"java/lang/String", "charAt", "(I)C"⟩ : MethodName)) hown (w142 hw) (w143 hw) (notFace_of_selects (args := #[]) (mvT hZ (w145 hw))) (w145 hw) (w144 hw) (desc_ne (by decide)) (W := 0) (fun v => v = some (.int c8)) (b := x1) (argsL := [(.int (0 : Int32))]) (rest := []) SN.1 (StrChars.Road.chN (W := 0) hZ (own_wch hw) (kI := 4) (w7 hw) SN.1 SN.2.1 SN.2.2.1 SN.2.2.2.1 SN.cod SN.up (SC.ext O0.2) hcz (SF.ext O0.2) rf SN.2.2.2.2.2 (i := 0) (Nat.le_of_ble_eq_true rfl) (j := (0 : Int32)) rfl (by decide) (by decide)) (by decide) (by decide) e1 (by rw [hml]; rfl) pd_11 rfl rfl (Nat.le_of_eq rfl) (hb hby d27_10) ?_
  intro v2 T2 X2 e2 hv2
  subst hv2
  show Gl p e below _ (T2.setTop (mkF m 13 #[.val (.ref x1), .val (.ref a2), .val (.int (0 : Int32)), .val (.int (1 : Int32))] [(.int c8)]))
  refine Gl.of (fun _ kq_ => XS.aloadN X2.here hx rfl (hb hby d27_13) rfl rfl kq_) ?_
  refine Gl.of (fun _ kq_ => XS.iloadN X2.here hx rfl (hb hby d27_14) rfl kq_) ?_
  refine Gl.of (fun _ kq_ => XS.bipush X2.here hx rfl (hb hby d27_15) kq_) ?_
  refine Gl.of (fun _ kq_ => XS.iadd X2.here hx rfl (hb hby d27_17) rfl kq_) ?_
  show Gl p e below _ (T2.setTop (mkF m 18 #[.val (.ref x1), .val (.ref a2), .val (.int (0 : Int32)), .val (.int (1 : Int32))] [(.int (8 : Int32)), (.ref a2), (.int c8)]))
  refine Gl.of (fun _ kq_ => XS.iloadN X2.here hx rfl (hb hby d27_18) rfl kq_) ?_
  refine Gl.of (fun _ kq_ => XS.iadd X2.here hx rfl (hb hby d27_19) rfl kq_) ?_
  show Gl p e below _ (T2.setTop (mkF m 20 #[.val (.ref x1), .val (.ref a2), .val (.int (0 : Int32)), .val (.int (1 : Int32))] [(.int (8 : Int32)), (.ref a2), (.int c8)]))
  obtain ⟨zcl3, zAr3, zq3, zS3, zM3, zH3, zG3⟩ := id VQ
  refine Gl.of (fun _ kq_ => X2.caload hx (j := (8 : Int32)) (v := (.int c8)) (by rw [e2]; exact (zAr3).1) (State.isArrayOf_alike hZ.alike (zAr3).2.1) (zAr3).2.2 (inb_of zS3 ⟨by decide, by decide⟩) (zH3 8 (by rw [zS3]; decide)) (g := (mkF m 20 #[.val (.ref x1), .val (.ref a2), .val (.int (0 : Int32)), .val (.int (1 : Int32))] [(.int (8 : Int32)), (.ref a2), (.int c8)])) rfl rfl (hb hby d27_20) _ kq_) ?_
  show Gl p e below _ (T2.setTop (mkF m 21 #[.val (.ref x1), .val (.ref a2), .val (.int (0 : Int32)), .val (.int (1 : Int32))] [(.int c8), (.int c8)]))
  refine Gl.of (fun _ kq_ => XS.icmpNo X2.here hx rfl (hb hby d27_21) rfl (teq (rfl : c8 = c8)).2 kq_) ?_
  refine Gl.of (fun _ kq_ => XS.iconst X2.here hx rfl (hb hby d27_24) kq_) ?_
  refine Gl.of (fun _ kq_ => XS.goto X2.here hx rfl (pc0 := 25) (pc' := 29) rfl (hb hby d27_25) (by decide) (by decide) kq_) ?_
  exact Gl.retN X2 hx hlk hret (by simp) (hb hby d27_29) e2 (⟨rfl, rfl, rfl⟩) (by decide) (by decide)
theorem rmA11 (l : Launch) (Z : State) (a0 : Array Value) (hw : ∀ d ∈ tables_1, d.before a0 Z = true) (h0 : Heap) (x1 t1 a2 : Addr) (kb1 kq : ClassId) (c0 c1 c2 c3 c4 c5 c6 c7 c8 c9 c10 c11 : Int32) (cz : Int32) (fm : Value) (n0 : Nat) (SN : Strg Z h0 x1 t1 kb1 [c8, c9, c10, c11]) (VQ : Arv Z h0 a2 kq .char (12 : Int32) [.int c0, .int c1, .int c2, .int c3, .int c4, .int c5, .int c6, .int c7, .int c8, .int c9, .int c10, .int c11] (.int 0)) (SC : Sta Z Z.heap "java/lang/String" "COMPACT_STRINGS" "Z" (.int cz)) (hcz : ¬ cz = 0) (SF : Sta Z Z.heap "jdk/internal/util/Preconditions" "SIOOBE_FORMATTER" "Ljava/util/function/BiFunction;" fm) (rf : fm.isRef = true) (O0 : Old Z n0 h0) : Con l Z (⟨"com/example/rulr/rulr/policy/MembershipConditionPinLaw", "at", "(Ljava/lang/String;[CII)Z"⟩ : MethodName) method_3_code 4 (some .boolean) [] ({ frames := 4, cells := 0, slots := 0, locals := 60 } : Room) 0 0 #[(.ref x1), (.ref a2), (.int (1 : Int32)), (.int (1 : Int32))] h0 (Pur (fun v => v = some (.int 1)) h0) := by
  refine Con.intro (plainFor_of_name pn_0) ?_
  intro p e s m below meth c s₁ X0 hx hby hml hZ hown hnm hret hlk e0 hs0
  refine Gl.of (fun _ kq_ => castTop (ef_15 m x1 a2 (1 : Int32) (1 : Int32)) kq_) ?_
  show Gl p e below _ (s₁.setTop (mkF m 0 #[.val (.ref x1), .val (.ref a2), .val (.int (1 : Int32)), .val (.int (1 : Int32))] []))
  refine Gl.of (fun _ kq_ => XS.iloadN X0.here hx rfl (hb hby d27_0) rfl kq_) ?_
  refine Gl.of (fun _ kq_ => XS.aloadN X0.here hx rfl (hb hby d27_1) rfl rfl kq_) ?_
  refine Gl.callVB X0 hx hZ (y := (⟨"java/lang/String", "length", "()I"⟩ : MethodName)) (z := (⟨"java/lang/String", "length", "()I"⟩ : MethodName)) hown (w138 hw) (w79 hw) (notFace_of_selects (args := #[]) (mvT hZ (w81 hw))) (w81 hw) (w80 hw) (desc_ne (by decide)) (W := 1) (fun v => v = some (.int (4 : Int32))) (b := x1) (argsL := []) (rest := [(.int (1 : Int32))]) SN.1 (StrChars.Road.lenW (W := 1) hZ (own_wln hw) (kI := 4) (w7 hw) SN.1 SN.2.1 SN.2.2.1 SN.2.2.2.1 SN.cod SN.up (SC.ext O0.2) hcz SN.2.2.2.2.2 (by decide) (by decide)) (by decide) (by decide) e0 (by rw [hml]; rfl) pd_5 rfl rfl (Nat.le_of_eq rfl) (hb hby d27_2) ?_
  intro v1 T1 X1 e1 hv1
  subst hv1
  show Gl p e below _ (T1.setTop (mkF m 5 #[.val (.ref x1), .val (.ref a2), .val (.int (1 : Int32)), .val (.int (1 : Int32))] [(.int (4 : Int32)), (.int (1 : Int32))]))
  refine Gl.of (fun _ kq_ => XS.icmpNo X1.here hx rfl (hb hby d27_5) rfl (tlt (by decide : (1 : Int32) < (4 : Int32))).2.1 kq_) ?_
  refine Gl.of (fun _ kq_ => XS.aloadN X1.here hx rfl (hb hby d27_8) rfl rfl kq_) ?_
  refine Gl.of (fun _ kq_ => XS.iloadN X1.here hx rfl (hb hby d27_9) rfl kq_) ?_
  refine Gl.callVB X1 hx hZ (y := (⟨"java/lang/String", "charAt", "(I)C"⟩ : MethodName)) (z := (⟨"java/lang/String", "charAt", "(I)C"⟩ : MethodName)) hown (w142 hw) (w143 hw) (notFace_of_selects (args := #[]) (mvT hZ (w145 hw))) (w145 hw) (w144 hw) (desc_ne (by decide)) (W := 0) (fun v => v = some (.int c9)) (b := x1) (argsL := [(.int (1 : Int32))]) (rest := []) SN.1 (StrChars.Road.chN (W := 0) hZ (own_wch hw) (kI := 4) (w7 hw) SN.1 SN.2.1 SN.2.2.1 SN.2.2.2.1 SN.cod SN.up (SC.ext O0.2) hcz (SF.ext O0.2) rf SN.2.2.2.2.2 (i := 1) (Nat.le_of_ble_eq_true rfl) (j := (1 : Int32)) rfl (by decide) (by decide)) (by decide) (by decide) e1 (by rw [hml]; rfl) pd_11 rfl rfl (Nat.le_of_eq rfl) (hb hby d27_10) ?_
  intro v2 T2 X2 e2 hv2
  subst hv2
  show Gl p e below _ (T2.setTop (mkF m 13 #[.val (.ref x1), .val (.ref a2), .val (.int (1 : Int32)), .val (.int (1 : Int32))] [(.int c9)]))
  refine Gl.of (fun _ kq_ => XS.aloadN X2.here hx rfl (hb hby d27_13) rfl rfl kq_) ?_
  refine Gl.of (fun _ kq_ => XS.iloadN X2.here hx rfl (hb hby d27_14) rfl kq_) ?_
  refine Gl.of (fun _ kq_ => XS.bipush X2.here hx rfl (hb hby d27_15) kq_) ?_
  refine Gl.of (fun _ kq_ => XS.iadd X2.here hx rfl (hb hby d27_17) rfl kq_) ?_
  show Gl p e below _ (T2.setTop (mkF m 18 #[.val (.ref x1), .val (.ref a2), .val (.int (1 : Int32)), .val (.int (1 : Int32))] [(.int (8 : Int32)), (.ref a2), (.int c9)]))
  refine Gl.of (fun _ kq_ => XS.iloadN X2.here hx rfl (hb hby d27_18) rfl kq_) ?_
  refine Gl.of (fun _ kq_ => XS.iadd X2.here hx rfl (hb hby d27_19) rfl kq_) ?_
  show Gl p e below _ (T2.setTop (mkF m 20 #[.val (.ref x1), .val (.ref a2), .val (.int (1 : Int32)), .val (.int (1 : Int32))] [(.int (9 : Int32)), (.ref a2), (.int c9)]))
  obtain ⟨zcl3, zAr3, zq3, zS3, zM3, zH3, zG3⟩ := id VQ
  refine Gl.of (fun _ kq_ => X2.caload hx (j := (9 : Int32)) (v := (.int c9)) (by rw [e2]; exact (zAr3).1) (State.isArrayOf_alike hZ.alike (zAr3).2.1) (zAr3).2.2 (inb_of zS3 ⟨by decide, by decide⟩) (zH3 9 (by rw [zS3]; decide)) (g := (mkF m 20 #[.val (.ref x1), .val (.ref a2), .val (.int (1 : Int32)), .val (.int (1 : Int32))] [(.int (9 : Int32)), (.ref a2), (.int c9)])) rfl rfl (hb hby d27_20) _ kq_) ?_
  show Gl p e below _ (T2.setTop (mkF m 21 #[.val (.ref x1), .val (.ref a2), .val (.int (1 : Int32)), .val (.int (1 : Int32))] [(.int c9), (.int c9)]))
  refine Gl.of (fun _ kq_ => XS.icmpNo X2.here hx rfl (hb hby d27_21) rfl (teq (rfl : c9 = c9)).2 kq_) ?_
  refine Gl.of (fun _ kq_ => XS.iconst X2.here hx rfl (hb hby d27_24) kq_) ?_
  refine Gl.of (fun _ kq_ => XS.goto X2.here hx rfl (pc0 := 25) (pc' := 29) rfl (hb hby d27_25) (by decide) (by decide) kq_) ?_
  exact Gl.retN X2 hx hlk hret (by simp) (hb hby d27_29) e2 (⟨rfl, rfl, rfl⟩) (by decide) (by decide)
theorem rmA12 (l : Launch) (Z : State) (a0 : Array Value) (hw : ∀ d ∈ tables_1, d.before a0 Z = true) (h0 : Heap) (x1 t1 a2 : Addr) (kb1 kq : ClassId) (c0 c1 c2 c3 c4 c5 c6 c7 c8 c9 c10 c11 : Int32) (cz : Int32) (fm : Value) (n0 : Nat) (SN : Strg Z h0 x1 t1 kb1 [c8, c9, c10, c11]) (VQ : Arv Z h0 a2 kq .char (12 : Int32) [.int c0, .int c1, .int c2, .int c3, .int c4, .int c5, .int c6, .int c7, .int c8, .int c9, .int c10, .int c11] (.int 0)) (SC : Sta Z Z.heap "java/lang/String" "COMPACT_STRINGS" "Z" (.int cz)) (hcz : ¬ cz = 0) (SF : Sta Z Z.heap "jdk/internal/util/Preconditions" "SIOOBE_FORMATTER" "Ljava/util/function/BiFunction;" fm) (rf : fm.isRef = true) (O0 : Old Z n0 h0) : Con l Z (⟨"com/example/rulr/rulr/policy/MembershipConditionPinLaw", "at", "(Ljava/lang/String;[CII)Z"⟩ : MethodName) method_3_code 4 (some .boolean) [] ({ frames := 4, cells := 0, slots := 0, locals := 60 } : Room) 0 0 #[(.ref x1), (.ref a2), (.int (2 : Int32)), (.int (1 : Int32))] h0 (Pur (fun v => v = some (.int 1)) h0) := by
  refine Con.intro (plainFor_of_name pn_0) ?_
  intro p e s m below meth c s₁ X0 hx hby hml hZ hown hnm hret hlk e0 hs0
  refine Gl.of (fun _ kq_ => castTop (ef_15 m x1 a2 (2 : Int32) (1 : Int32)) kq_) ?_
  show Gl p e below _ (s₁.setTop (mkF m 0 #[.val (.ref x1), .val (.ref a2), .val (.int (2 : Int32)), .val (.int (1 : Int32))] []))
  refine Gl.of (fun _ kq_ => XS.iloadN X0.here hx rfl (hb hby d27_0) rfl kq_) ?_
  refine Gl.of (fun _ kq_ => XS.aloadN X0.here hx rfl (hb hby d27_1) rfl rfl kq_) ?_
  refine Gl.callVB X0 hx hZ (y := (⟨"java/lang/String", "length", "()I"⟩ : MethodName)) (z := (⟨"java/lang/String", "length", "()I"⟩ : MethodName)) hown (w138 hw) (w79 hw) (notFace_of_selects (args := #[]) (mvT hZ (w81 hw))) (w81 hw) (w80 hw) (desc_ne (by decide)) (W := 1) (fun v => v = some (.int (4 : Int32))) (b := x1) (argsL := []) (rest := [(.int (2 : Int32))]) SN.1 (StrChars.Road.lenW (W := 1) hZ (own_wln hw) (kI := 4) (w7 hw) SN.1 SN.2.1 SN.2.2.1 SN.2.2.2.1 SN.cod SN.up (SC.ext O0.2) hcz SN.2.2.2.2.2 (by decide) (by decide)) (by decide) (by decide) e0 (by rw [hml]; rfl) pd_5 rfl rfl (Nat.le_of_eq rfl) (hb hby d27_2) ?_
  intro v1 T1 X1 e1 hv1
  subst hv1
  show Gl p e below _ (T1.setTop (mkF m 5 #[.val (.ref x1), .val (.ref a2), .val (.int (2 : Int32)), .val (.int (1 : Int32))] [(.int (4 : Int32)), (.int (2 : Int32))]))
  refine Gl.of (fun _ kq_ => XS.icmpNo X1.here hx rfl (hb hby d27_5) rfl (tlt (by decide : (2 : Int32) < (4 : Int32))).2.1 kq_) ?_
  refine Gl.of (fun _ kq_ => XS.aloadN X1.here hx rfl (hb hby d27_8) rfl rfl kq_) ?_
  refine Gl.of (fun _ kq_ => XS.iloadN X1.here hx rfl (hb hby d27_9) rfl kq_) ?_
  refine Gl.callVB X1 hx hZ (y := (⟨"java/lang/String", "charAt", "(I)C"⟩ : MethodName)) (z := (⟨"java/lang/String", "charAt", "(I)C"⟩ : MethodName)) hown (w142 hw) (w143 hw) (notFace_of_selects (args := #[]) (mvT hZ (w145 hw))) (w145 hw) (w144 hw) (desc_ne (by decide)) (W := 0) (fun v => v = some (.int c10)) (b := x1) (argsL := [(.int (2 : Int32))]) (rest := []) SN.1 (StrChars.Road.chN (W := 0) hZ (own_wch hw) (kI := 4) (w7 hw) SN.1 SN.2.1 SN.2.2.1 SN.2.2.2.1 SN.cod SN.up (SC.ext O0.2) hcz (SF.ext O0.2) rf SN.2.2.2.2.2 (i := 2) (Nat.le_of_ble_eq_true rfl) (j := (2 : Int32)) rfl (by decide) (by decide)) (by decide) (by decide) e1 (by rw [hml]; rfl) pd_11 rfl rfl (Nat.le_of_eq rfl) (hb hby d27_10) ?_
  intro v2 T2 X2 e2 hv2
  subst hv2
  show Gl p e below _ (T2.setTop (mkF m 13 #[.val (.ref x1), .val (.ref a2), .val (.int (2 : Int32)), .val (.int (1 : Int32))] [(.int c10)]))
  refine Gl.of (fun _ kq_ => XS.aloadN X2.here hx rfl (hb hby d27_13) rfl rfl kq_) ?_
  refine Gl.of (fun _ kq_ => XS.iloadN X2.here hx rfl (hb hby d27_14) rfl kq_) ?_
  refine Gl.of (fun _ kq_ => XS.bipush X2.here hx rfl (hb hby d27_15) kq_) ?_
  refine Gl.of (fun _ kq_ => XS.iadd X2.here hx rfl (hb hby d27_17) rfl kq_) ?_
  show Gl p e below _ (T2.setTop (mkF m 18 #[.val (.ref x1), .val (.ref a2), .val (.int (2 : Int32)), .val (.int (1 : Int32))] [(.int (8 : Int32)), (.ref a2), (.int c10)]))
  refine Gl.of (fun _ kq_ => XS.iloadN X2.here hx rfl (hb hby d27_18) rfl kq_) ?_
  refine Gl.of (fun _ kq_ => XS.iadd X2.here hx rfl (hb hby d27_19) rfl kq_) ?_
  show Gl p e below _ (T2.setTop (mkF m 20 #[.val (.ref x1), .val (.ref a2), .val (.int (2 : Int32)), .val (.int (1 : Int32))] [(.int (10 : Int32)), (.ref a2), (.int c10)]))
  obtain ⟨zcl3, zAr3, zq3, zS3, zM3, zH3, zG3⟩ := id VQ
  refine Gl.of (fun _ kq_ => X2.caload hx (j := (10 : Int32)) (v := (.int c10)) (by rw [e2]; exact (zAr3).1) (State.isArrayOf_alike hZ.alike (zAr3).2.1) (zAr3).2.2 (inb_of zS3 ⟨by decide, by decide⟩) (zH3 10 (by rw [zS3]; decide)) (g := (mkF m 20 #[.val (.ref x1), .val (.ref a2), .val (.int (2 : Int32)), .val (.int (1 : Int32))] [(.int (10 : Int32)), (.ref a2), (.int c10)])) rfl rfl (hb hby d27_20) _ kq_) ?_
  show Gl p e below _ (T2.setTop (mkF m 21 #[.val (.ref x1), .val (.ref a2), .val (.int (2 : Int32)), .val (.int (1 : Int32))] [(.int c10), (.int c10)]))
  refine Gl.of (fun _ kq_ => XS.icmpNo X2.here hx rfl (hb hby d27_21) rfl (teq (rfl : c10 = c10)).2 kq_) ?_
  refine Gl.of (fun _ kq_ => XS.iconst X2.here hx rfl (hb hby d27_24) kq_) ?_
  refine Gl.of (fun _ kq_ => XS.goto X2.here hx rfl (pc0 := 25) (pc' := 29) rfl (hb hby d27_25) (by decide) (by decide) kq_) ?_
  exact Gl.retN X2 hx hlk hret (by simp) (hb hby d27_29) e2 (⟨rfl, rfl, rfl⟩) (by decide) (by decide)
theorem rmA13 (l : Launch) (Z : State) (a0 : Array Value) (hw : ∀ d ∈ tables_1, d.before a0 Z = true) (h0 : Heap) (x1 t1 a2 : Addr) (kb1 kq : ClassId) (c0 c1 c2 c3 c4 c5 c6 c7 c8 c9 c10 c11 : Int32) (cz : Int32) (fm : Value) (n0 : Nat) (SN : Strg Z h0 x1 t1 kb1 [c8, c9, c10, c11]) (VQ : Arv Z h0 a2 kq .char (12 : Int32) [.int c0, .int c1, .int c2, .int c3, .int c4, .int c5, .int c6, .int c7, .int c8, .int c9, .int c10, .int c11] (.int 0)) (SC : Sta Z Z.heap "java/lang/String" "COMPACT_STRINGS" "Z" (.int cz)) (hcz : ¬ cz = 0) (SF : Sta Z Z.heap "jdk/internal/util/Preconditions" "SIOOBE_FORMATTER" "Ljava/util/function/BiFunction;" fm) (rf : fm.isRef = true) (O0 : Old Z n0 h0) : Con l Z (⟨"com/example/rulr/rulr/policy/MembershipConditionPinLaw", "at", "(Ljava/lang/String;[CII)Z"⟩ : MethodName) method_3_code 4 (some .boolean) [] ({ frames := 4, cells := 0, slots := 0, locals := 60 } : Room) 0 0 #[(.ref x1), (.ref a2), (.int (3 : Int32)), (.int (1 : Int32))] h0 (Pur (fun v => v = some (.int 1)) h0) := by
  refine Con.intro (plainFor_of_name pn_0) ?_
  intro p e s m below meth c s₁ X0 hx hby hml hZ hown hnm hret hlk e0 hs0
  refine Gl.of (fun _ kq_ => castTop (ef_15 m x1 a2 (3 : Int32) (1 : Int32)) kq_) ?_
  show Gl p e below _ (s₁.setTop (mkF m 0 #[.val (.ref x1), .val (.ref a2), .val (.int (3 : Int32)), .val (.int (1 : Int32))] []))
  refine Gl.of (fun _ kq_ => XS.iloadN X0.here hx rfl (hb hby d27_0) rfl kq_) ?_
  refine Gl.of (fun _ kq_ => XS.aloadN X0.here hx rfl (hb hby d27_1) rfl rfl kq_) ?_
  refine Gl.callVB X0 hx hZ (y := (⟨"java/lang/String", "length", "()I"⟩ : MethodName)) (z := (⟨"java/lang/String", "length", "()I"⟩ : MethodName)) hown (w138 hw) (w79 hw) (notFace_of_selects (args := #[]) (mvT hZ (w81 hw))) (w81 hw) (w80 hw) (desc_ne (by decide)) (W := 1) (fun v => v = some (.int (4 : Int32))) (b := x1) (argsL := []) (rest := [(.int (3 : Int32))]) SN.1 (StrChars.Road.lenW (W := 1) hZ (own_wln hw) (kI := 4) (w7 hw) SN.1 SN.2.1 SN.2.2.1 SN.2.2.2.1 SN.cod SN.up (SC.ext O0.2) hcz SN.2.2.2.2.2 (by decide) (by decide)) (by decide) (by decide) e0 (by rw [hml]; rfl) pd_5 rfl rfl (Nat.le_of_eq rfl) (hb hby d27_2) ?_
  intro v1 T1 X1 e1 hv1
  subst hv1
  show Gl p e below _ (T1.setTop (mkF m 5 #[.val (.ref x1), .val (.ref a2), .val (.int (3 : Int32)), .val (.int (1 : Int32))] [(.int (4 : Int32)), (.int (3 : Int32))]))
  refine Gl.of (fun _ kq_ => XS.icmpNo X1.here hx rfl (hb hby d27_5) rfl (tlt (by decide : (3 : Int32) < (4 : Int32))).2.1 kq_) ?_
  refine Gl.of (fun _ kq_ => XS.aloadN X1.here hx rfl (hb hby d27_8) rfl rfl kq_) ?_
  refine Gl.of (fun _ kq_ => XS.iloadN X1.here hx rfl (hb hby d27_9) rfl kq_) ?_
  refine Gl.callVB X1 hx hZ (y := (⟨"java/lang/String", "charAt", "(I)C"⟩ : MethodName)) (z := (⟨"java/lang/String", "charAt", "(I)C"⟩ : MethodName)) hown (w142 hw) (w143 hw) (notFace_of_selects (args := #[]) (mvT hZ (w145 hw))) (w145 hw) (w144 hw) (desc_ne (by decide)) (W := 0) (fun v => v = some (.int c11)) (b := x1) (argsL := [(.int (3 : Int32))]) (rest := []) SN.1 (StrChars.Road.chN (W := 0) hZ (own_wch hw) (kI := 4) (w7 hw) SN.1 SN.2.1 SN.2.2.1 SN.2.2.2.1 SN.cod SN.up (SC.ext O0.2) hcz (SF.ext O0.2) rf SN.2.2.2.2.2 (i := 3) (Nat.le_of_ble_eq_true rfl) (j := (3 : Int32)) rfl (by decide) (by decide)) (by decide) (by decide) e1 (by rw [hml]; rfl) pd_11 rfl rfl (Nat.le_of_eq rfl) (hb hby d27_10) ?_
  intro v2 T2 X2 e2 hv2
  subst hv2
  show Gl p e below _ (T2.setTop (mkF m 13 #[.val (.ref x1), .val (.ref a2), .val (.int (3 : Int32)), .val (.int (1 : Int32))] [(.int c11)]))
  refine Gl.of (fun _ kq_ => XS.aloadN X2.here hx rfl (hb hby d27_13) rfl rfl kq_) ?_
  refine Gl.of (fun _ kq_ => XS.iloadN X2.here hx rfl (hb hby d27_14) rfl kq_) ?_
  refine Gl.of (fun _ kq_ => XS.bipush X2.here hx rfl (hb hby d27_15) kq_) ?_
  refine Gl.of (fun _ kq_ => XS.iadd X2.here hx rfl (hb hby d27_17) rfl kq_) ?_
  show Gl p e below _ (T2.setTop (mkF m 18 #[.val (.ref x1), .val (.ref a2), .val (.int (3 : Int32)), .val (.int (1 : Int32))] [(.int (8 : Int32)), (.ref a2), (.int c11)]))
  refine Gl.of (fun _ kq_ => XS.iloadN X2.here hx rfl (hb hby d27_18) rfl kq_) ?_
  refine Gl.of (fun _ kq_ => XS.iadd X2.here hx rfl (hb hby d27_19) rfl kq_) ?_
  show Gl p e below _ (T2.setTop (mkF m 20 #[.val (.ref x1), .val (.ref a2), .val (.int (3 : Int32)), .val (.int (1 : Int32))] [(.int (11 : Int32)), (.ref a2), (.int c11)]))
  obtain ⟨zcl3, zAr3, zq3, zS3, zM3, zH3, zG3⟩ := id VQ
  refine Gl.of (fun _ kq_ => X2.caload hx (j := (11 : Int32)) (v := (.int c11)) (by rw [e2]; exact (zAr3).1) (State.isArrayOf_alike hZ.alike (zAr3).2.1) (zAr3).2.2 (inb_of zS3 ⟨by decide, by decide⟩) (zH3 11 (by rw [zS3]; decide)) (g := (mkF m 20 #[.val (.ref x1), .val (.ref a2), .val (.int (3 : Int32)), .val (.int (1 : Int32))] [(.int (11 : Int32)), (.ref a2), (.int c11)])) rfl rfl (hb hby d27_20) _ kq_) ?_
  show Gl p e below _ (T2.setTop (mkF m 21 #[.val (.ref x1), .val (.ref a2), .val (.int (3 : Int32)), .val (.int (1 : Int32))] [(.int c11), (.int c11)]))
  refine Gl.of (fun _ kq_ => XS.icmpNo X2.here hx rfl (hb hby d27_21) rfl (teq (rfl : c11 = c11)).2 kq_) ?_
  refine Gl.of (fun _ kq_ => XS.iconst X2.here hx rfl (hb hby d27_24) kq_) ?_
  refine Gl.of (fun _ kq_ => XS.goto X2.here hx rfl (pc0 := 25) (pc' := 29) rfl (hb hby d27_25) (by decide) (by decide) kq_) ?_
  exact Gl.retN X2 hx hlk hret (by simp) (hb hby d27_29) e2 (⟨rfl, rfl, rfl⟩) (by decide) (by decide)
theorem rmA14 (l : Launch) (Z : State) (a0 : Array Value) (hw : ∀ d ∈ tables_1, d.before a0 Z = true) (h0 : Heap) (x1 t1 a2 : Addr) (kb1 kq : ClassId) (c0 c1 c2 c3 c4 c5 c6 c7 c8 c9 c10 c11 : Int32) (cz : Int32) (fm : Value) (n0 : Nat) (SN : Strg Z h0 x1 t1 kb1 [c8, c9, c10, c11]) (VQ : Arv Z h0 a2 kq .char (12 : Int32) [.int c0, .int c1, .int c2, .int c3, .int c4, .int c5, .int c6, .int c7, .int c8, .int c9, .int c10, .int c11] (.int 0)) (SC : Sta Z Z.heap "java/lang/String" "COMPACT_STRINGS" "Z" (.int cz)) (hcz : ¬ cz = 0) (SF : Sta Z Z.heap "jdk/internal/util/Preconditions" "SIOOBE_FORMATTER" "Ljava/util/function/BiFunction;" fm) (rf : fm.isRef = true) (O0 : Old Z n0 h0) : Con l Z (⟨"com/example/rulr/rulr/policy/MembershipConditionPinLaw", "at", "(Ljava/lang/String;[CII)Z"⟩ : MethodName) method_3_code 4 (some .boolean) [] ({ frames := 4, cells := 0, slots := 0, locals := 60 } : Room) 0 0 #[(.ref x1), (.ref a2), (.int (4 : Int32)), (.int (1 : Int32))] h0 (Pur (fun v => v = some (.int 1)) h0) := by
  refine Con.intro (plainFor_of_name pn_0) ?_
  intro p e s m below meth c s₁ X0 hx hby hml hZ hown hnm hret hlk e0 hs0
  refine Gl.of (fun _ kq_ => castTop (ef_15 m x1 a2 (4 : Int32) (1 : Int32)) kq_) ?_
  show Gl p e below _ (s₁.setTop (mkF m 0 #[.val (.ref x1), .val (.ref a2), .val (.int (4 : Int32)), .val (.int (1 : Int32))] []))
  refine Gl.of (fun _ kq_ => XS.iloadN X0.here hx rfl (hb hby d27_0) rfl kq_) ?_
  refine Gl.of (fun _ kq_ => XS.aloadN X0.here hx rfl (hb hby d27_1) rfl rfl kq_) ?_
  refine Gl.callVB X0 hx hZ (y := (⟨"java/lang/String", "length", "()I"⟩ : MethodName)) (z := (⟨"java/lang/String", "length", "()I"⟩ : MethodName)) hown (w138 hw) (w79 hw) (notFace_of_selects (args := #[]) (mvT hZ (w81 hw))) (w81 hw) (w80 hw) (desc_ne (by decide)) (W := 1) (fun v => v = some (.int (4 : Int32))) (b := x1) (argsL := []) (rest := [(.int (4 : Int32))]) SN.1 (StrChars.Road.lenW (W := 1) hZ (own_wln hw) (kI := 4) (w7 hw) SN.1 SN.2.1 SN.2.2.1 SN.2.2.2.1 SN.cod SN.up (SC.ext O0.2) hcz SN.2.2.2.2.2 (by decide) (by decide)) (by decide) (by decide) e0 (by rw [hml]; rfl) pd_5 rfl rfl (Nat.le_of_eq rfl) (hb hby d27_2) ?_
  intro v1 T1 X1 e1 hv1
  subst hv1
  show Gl p e below _ (T1.setTop (mkF m 5 #[.val (.ref x1), .val (.ref a2), .val (.int (4 : Int32)), .val (.int (1 : Int32))] [(.int (4 : Int32)), (.int (4 : Int32))]))
  refine Gl.of (fun _ kq_ => XS.icmpYes X1.here hx rfl (pc0 := 5) (pc' := 24) rfl (hb hby d27_5) rfl (flt (by decide : ¬ ((4 : Int32) < (4 : Int32)))).2.1 (by decide) (by decide) kq_) ?_
  refine Gl.of (fun _ kq_ => XS.iconst X1.here hx rfl (hb hby d27_24) kq_) ?_
  refine Gl.of (fun _ kq_ => XS.goto X1.here hx rfl (pc0 := 25) (pc' := 29) rfl (hb hby d27_25) (by decide) (by decide) kq_) ?_
  exact Gl.retN X1 hx hlk hret (by simp) (hb hby d27_29) e1 (⟨rfl, rfl, rfl⟩) (by decide) (by decide)
theorem rmN2 (l : Launch) (Z : State) (a0 : Array Value) (hw : ∀ d ∈ tables_1, d.before a0 Z = true) (h0 : Heap) (t1 : Addr) (kb1 : ClassId) (c0 c1 c2 c3 c4 c5 c6 c7 c8 c9 c10 c11 : Int32) (n0 : Nat) (V1 : Arv Z h0 t1 kb1 .byte (Int32.ofNat 12) ((([c0, c1, c2, c3, c4, c5, c6, c7, c8, c9, c10, c11] : List Int32).map (fun c => c.toInt8.toInt32)).map Value.int) (.int 0)) (hfb : Z.vm.findClass "[B" = some kb1) (hr : ∀ c ∈ ([c0, c1, c2, c3, c4, c5, c6, c7, c8, c9, c10, c11] : List Int32), ¬ c < 0 ∧ ¬ (255 : Int32) < c) (O0 : Old Z n0 h0) : Con l Z (⟨"java/lang/StringLatin1", "newString", "([BII)Ljava/lang/String;"⟩ : MethodName) jdk_43_method_47_code 3 (some (.object "java/lang/String")) [] ({ frames := 4, cells := 2, slots := 16, locals := 98 } : Room) 2 16 #[(.ref t1), (.int (9 : Int32)), (.int (3 : Int32))] h0 (fun v h L => ∃ r t kb, v = some (.ref r) ∧ Strg Z h r t kb [c9, c10, c11] ∧ Keep h0 h [] ∧ Fr n0 L) := by
  refine Con.intro (plainFor_of_name pn_1) ?_
  intro p e s m below meth c s₁ X0 hx hby hml hZ hown hnm hret hlk e0 hs0
  refine Gl.of (fun _ kq_ => castTop (ef_11 m t1 (9 : Int32) (3 : Int32)) kq_) ?_
  have K0 := Keep.refl h0 []
  show Gl p e below _ (s₁.setTop (mkF m 0 #[.val (.ref t1), .val (.int (9 : Int32)), .val (.int (3 : Int32))] []))
  refine Gl.of (fun _ kq_ => XS.iloadN X0.here hx rfl (hb hby d22_0) rfl kq_) ?_
  refine Gl.of (fun _ kq_ => XS.ifYes X0.here hx rfl (pc0 := 1) (pc' := 7) rfl (hb hby d22_1) rfl ((if0 _ _).trans (feq (by decide : ¬ ((3 : Int32) = (0 : Int32)))).2) (by decide) (by decide) kq_) ?_
  obtain ⟨T1, h1, X1, e1, E1, A1, D1, -, st1⟩ := newO X0 hx hZ hown (w118 hw) (w7 hw) (w8 hw) e0 (g := (mkF m 7 #[.val (.ref t1), .val (.int (9 : Int32)), .val (.int (3 : Int32))] [])) rfl (hb hby d22_7) (by decide) (by decide)
  obtain ⟨b1, g1⟩ : ∃ z, z = h0.size := ⟨_, rfl⟩
  rw [← g1] at A1 D1 st1
  refine Gl.of st1 ?_
  have Gb1 : n0 ≤ b1 := Nat.le_trans (O0.1 ▸ O0.2.1) (Nat.le_of_eq g1.symm)
  have Jb1 : h0.size ≤ b1 := Nat.le_trans K0.1 (Nat.le_of_eq g1.symm)
  have ne_t1_b1 : t1 ≠ b1 := Nat.ne_of_lt (Nat.lt_of_lt_of_le V1.lt (Nat.le_of_eq g1.symm))
  have vc2 := V1.ext E1
  have O1 := O0.ext E1
  have K1 := K0.ext E1
  have F1_coder : Fld Z h1 b1 "java/lang/String" "coder" "B" (.int (0 : Int32)) := D1 (Or.inr (w32 hw)) (ty := .byte) (by decide)
  have F1_value : Fld Z h1 b1 "java/lang/String" "value" "[B" .null := D1 (Or.inr (w34 hw)) (ty := (.array .byte)) (by decide)
  show Gl p e below _ (T1.setTop (mkF m 10 #[.val (.ref t1), .val (.int (9 : Int32)), .val (.int (3 : Int32))] [(.ref b1)]))
  refine Gl.of (fun _ kq_ => XS.dup X1.here hx rfl (hb hby d22_10) rfl rfl kq_) ?_
  refine Gl.of (fun _ kq_ => XS.aloadN X1.here hx rfl (hb hby d22_11) rfl rfl kq_) ?_
  refine Gl.of (fun _ kq_ => XS.iloadN X1.here hx rfl (hb hby d22_12) rfl kq_) ?_
  refine Gl.of (fun _ kq_ => XS.iloadN X1.here hx rfl (hb hby d22_13) rfl kq_) ?_
  refine Gl.of (fun _ kq_ => XS.iloadN X1.here hx rfl (hb hby d22_14) rfl kq_) ?_
  refine Gl.of (fun _ kq_ => XS.iadd X1.here hx rfl (hb hby d22_15) rfl kq_) ?_
  show Gl p e below _ (T1.setTop (mkF m 16 #[.val (.ref t1), .val (.int (9 : Int32)), .val (.int (3 : Int32))] [(.int (12 : Int32)), (.int (9 : Int32)), (.ref t1), (.ref b1), (.ref b1)]))
  refine Gl.callCor X1 hx hZ hown (w119 hw) (w120 hw) (w121 hw) (w122 hw) (own_cor hw) vc2 hfb (fr := 9) (to := 12) (cap := 12) rfl (by decide) (by decide) (by decide) (by decide) (by decide) (vs' := (([c9, c10, c11] : List Int32).map (fun c => c.toInt8.toInt32)).map Value.int) rfl (n := 3) rfl (by decide) (W := 2) (rest := [(.ref b1), (.ref b1)]) (by decide) (by decide) (by decide) (by decide) e1 rfl rfl (by rw [hml]; rfl) rfl (Nat.le_of_eq rfl) (hb hby d22_16) ?_
  intro r3 T3 X3 E3 Gr3 Vr3
  have ne_t1_r3 : t1 ≠ r3 := Nat.ne_of_lt (Nat.lt_of_lt_of_le vc2.lt Gr3)
  have ne_b1_r3 : b1 ≠ r3 := Nat.ne_of_lt (Nat.lt_of_lt_of_le A1.lt Gr3)
  have vc4 := vc2.ext E3
  have ec5 := A1.ext E3
  have fc6 := F1_coder.ext E3
  have fc7 := F1_value.ext E3
  have O3 := O1.ext E3
  have K3 := K1.ext E3
  show Gl p e below _ (T3.setTop (mkF m 19 #[.val (.ref t1), .val (.int (9 : Int32)), .val (.int (3 : Int32))] [(.ref r3), (.ref b1), (.ref b1)]))
  refine Gl.of (fun _ kq_ => XS.iconst X3.here hx rfl (hb hby d22_19) kq_) ?_
  refine Gl.callI X3 hx hZ (y := (⟨"java/lang/String", "<init>", "([BB)V"⟩ : MethodName)) rfl hown (w137 hw) (w50 hw) (w8 hw) (w51 hw) (desc_ne (by decide)) (rm := { frames := 1, cells := 0, slots := 0, locals := 13 }) (b := b1) (argsL := [(.ref r3), (.int (0 : Int32))]) (rest := [(.ref b1)]) (rmB l Z a0 hw _ b1 r3 n0 ec5 fc7 fc6 Gb1 O3) 1 (by decide) (by decide) (by decide) (by decide) rfl (by rw [hml]; rfl) pd_2 rfl rfl (Nat.le_of_eq rfl) (hb hby d22_20) ?_
  intro v8 T8 L8 X8 hQ8
  obtain ⟨rfl, Nq8, Kq8, Fv8, Fc8⟩ := hQ8
  have N8 := Fr.app (Fr.nil n0) Nq8
  have vc9 := vc4.keep Kq8 (fun q => ne_t1_b1 (List.mem_singleton.mp q))
  have ec10 := ec5.keep Kq8
  have vc11 := Vr3.keep Kq8 (fun q => ne_b1_r3.symm (List.mem_singleton.mp q))
  have O8 := O3.keep Kq8 (allS Gb1 all0)
  have K8 := K3.trans Kq8 (by intro x hx'; cases List.mem_singleton.mp hx'; exact Or.inr Jb1)
  show Gl p e below _ (T8.setTop (mkF m 23 #[.val (.ref t1), .val (.int (9 : Int32)), .val (.int (3 : Int32))] [(.ref b1)]))
  exact Gl.retR X8 hx hlk hret rfl rfl (hb hby d22_23) rfl (⟨_, _, _, rfl, ⟨ec10, Fv8, Fc8, vc11, (fun c hc => hr c (by simp at hc ⊢; grind)), Nat.le_of_ble_eq_true rfl⟩, K8, N8⟩) (by decide) (by decide)
theorem rmS2 (l : Launch) (Z : State) (a0 : Array Value) (hw : ∀ d ∈ tables_1, d.before a0 Z = true) (h0 : Heap) (x1 t1 : Addr) (kb1 : ClassId) (c0 c1 c2 c3 c4 c5 c6 c7 c8 c9 c10 c11 : Int32) (cz : Int32) (fm : Value) (n0 : Nat) (SN : Strg Z h0 x1 t1 kb1 [c0, c1, c2, c3, c4, c5, c6, c7, c8, c9, c10, c11]) (hfb : Z.vm.findClass "[B" = some kb1) (SC : Sta Z Z.heap "java/lang/String" "COMPACT_STRINGS" "Z" (.int cz)) (hcz : ¬ cz = 0) (SF : Sta Z Z.heap "jdk/internal/util/Preconditions" "SIOOBE_FORMATTER" "Ljava/util/function/BiFunction;" fm) (rf : fm.isRef = true) (O0 : Old Z n0 h0) : Con l Z (⟨"java/lang/String", "substring", "(II)Ljava/lang/String;"⟩ : MethodName) jdk_42_method_92_code 5 (some (.object "java/lang/String")) [] ({ frames := 5, cells := 2, slots := 16, locals := 113 } : Room) 2 16 #[(.ref x1), (.int (9 : Int32)), (.int (12 : Int32))] h0 (fun v h L => ∃ r t kb, v = some (.ref r) ∧ Strg Z h r t kb [c9, c10, c11] ∧ Keep h0 h [] ∧ Fr n0 L) := by
  refine Con.intro (plainFor_of_name pn_2) ?_
  intro p e s m below meth c s₁ X0 hx hby hml hZ hown hnm hret hlk e0 hs0
  refine Gl.of (fun _ kq_ => castTop (ef_12 m x1 (9 : Int32) (12 : Int32)) kq_) ?_
  have K0 := Keep.refl h0 []
  show Gl p e below _ (s₁.setTop (mkF m 0 #[.val (.ref x1), .val (.int (9 : Int32)), .val (.int (12 : Int32)), .unset, .unset] []))
  refine Gl.of (fun _ kq_ => XS.aloadN X0.here hx rfl (hb hby d18_0) rfl rfl kq_) ?_
  refine Gl.callVB X0 hx hZ (y := (⟨"java/lang/String", "length", "()I"⟩ : MethodName)) (z := (⟨"java/lang/String", "length", "()I"⟩ : MethodName)) hown (w96 hw) (w79 hw) (notFace_of_selects (args := #[]) (mvT hZ (w81 hw))) (w81 hw) (w80 hw) (desc_ne (by decide)) (W := 0) (fun v => v = some (.int (12 : Int32))) (b := x1) (argsL := []) (rest := []) SN.1 (StrChars.Road.lenW (W := 0) hZ (own_wln hw) (kI := 4) (w7 hw) SN.1 SN.2.1 SN.2.2.1 SN.2.2.2.1 SN.cod SN.up (SC.ext O0.2) hcz SN.2.2.2.2.2 (by decide) (by decide)) (by decide) (by decide) e0 (by rw [hml]; rfl) pd_5 rfl rfl (Nat.le_of_eq rfl) (hb hby d18_1) ?_
  intro v1 T1 X1 e1 hv1
  subst hv1
  show Gl p e below _ (T1.setTop (mkF m 4 #[.val (.ref x1), .val (.int (9 : Int32)), .val (.int (12 : Int32)), .unset, .unset] [(.int (12 : Int32))]))
  refine Gl.of (fun _ kq_ => XS.istoreN X1.here hx rfl (hb hby d18_4) rfl (l' := #[.val (.ref x1), .val (.int (9 : Int32)), .val (.int (12 : Int32)), .val (.int (12 : Int32)), .unset]) rfl kq_) ?_
  refine Gl.of (fun _ kq_ => XS.iloadN X1.here hx rfl (hb hby d18_5) rfl kq_) ?_
  refine Gl.of (fun _ kq_ => XS.iloadN X1.here hx rfl (hb hby d18_6) rfl kq_) ?_
  refine Gl.of (fun _ kq_ => XS.iloadN X1.here hx rfl (hb hby d18_7) rfl kq_) ?_
  refine Gl.callS0 X1 hx hZ (y := (⟨"java/lang/String", "checkBoundsBeginEnd", "(III)V"⟩ : MethodName)) hown (w102 hw) (w103 hw) (w8 hw) (w104 hw) (desc_ne (by decide)) (argsL := [(.int (9 : Int32)), (.int (12 : Int32)), (.int (12 : Int32))]) (rest := []) (rmG l Z a0 hw _ (9 : Int32) (12 : Int32) (12 : Int32) fm n0 SF rf (by decide) (by decide) (by decide) O0) 0 (by decide) (by decide) e1 (by rw [hml]; rfl) pd_6 rfl rfl (Nat.le_of_eq rfl) (hb hby d18_8) (by decide) (by decide) ?_
  intro v2 T2 X2 e2 hv2
  subst hv2
  show Gl p e below _ (T2.setTop (mkF m 11 #[.val (.ref x1), .val (.int (9 : Int32)), .val (.int (12 : Int32)), .val (.int (12 : Int32)), .unset] []))
  refine Gl.of (fun _ kq_ => XS.iloadN X2.here hx rfl (hb hby d18_11) rfl kq_) ?_
  refine Gl.of (fun _ kq_ => XS.ifYes X2.here hx rfl (pc0 := 12) (pc' := 22) rfl (hb hby d18_12) rfl ((if0 _ _).trans (feq (by decide : ¬ ((9 : Int32) = (0 : Int32)))).2) (by decide) (by decide) kq_) ?_
  refine Gl.of (fun _ kq_ => XS.iloadN X2.here hx rfl (hb hby d18_22) rfl kq_) ?_
  refine Gl.of (fun _ kq_ => XS.iloadN X2.here hx rfl (hb hby d18_23) rfl kq_) ?_
  refine Gl.of (fun _ kq_ => XS.isub X2.here hx rfl (hb hby d18_24) rfl kq_) ?_
  show Gl p e below _ (T2.setTop (mkF m 25 #[.val (.ref x1), .val (.int (9 : Int32)), .val (.int (12 : Int32)), .val (.int (12 : Int32)), .unset] [(.int (3 : Int32))]))
  refine Gl.of (fun _ kq_ => XS.istore X2.here hx rfl (hb hby d18_25) rfl (l' := #[.val (.ref x1), .val (.int (9 : Int32)), .val (.int (12 : Int32)), .val (.int (12 : Int32)), .val (.int (3 : Int32))]) rfl kq_) ?_
  refine Gl.of (fun _ kq_ => XS.aloadN X2.here hx rfl (hb hby d18_27) rfl rfl kq_) ?_
  refine Gl.callV0 X2 hx hZ (y := (⟨"java/lang/String", "isLatin1", "()Z"⟩ : MethodName)) (z := (⟨"java/lang/String", "isLatin1", "()Z"⟩ : MethodName)) hown (w110 hw) (w111 hw) (notFace_of_selects (args := #[]) (mvT hZ (w113 hw))) (w113 hw) (w112 hw) (w114 hw) (w8 hw) (desc_ne (by decide)) (b := x1) (argsL := []) (rest := []) SN.1 (rmL l Z a0 hw _ x1 cz n0 SN.2.2.1 SC hcz O0) 0 (by decide) (by decide) e2 (by rw [hml]; rfl) pd_7 rfl rfl (Nat.le_of_eq rfl) (hb hby d18_28) (by decide) (by decide) ?_
  intro v3 T3 X3 e3 hv3
  subst hv3
  show Gl p e below _ (T3.setTop (mkF m 31 #[.val (.ref x1), .val (.int (9 : Int32)), .val (.int (12 : Int32)), .val (.int (12 : Int32)), .val (.int (3 : Int32))] [(.int (1 : Int32))]))
  refine Gl.of (fun _ kq_ => XS.ifNo X3.here hx rfl (hb hby d18_31) rfl ((if0 _ _).trans (feq (by decide : ¬ ((1 : Int32) = (0 : Int32)))).1) kq_) ?_
  refine Gl.of (fun _ kq_ => XS.aloadN X3.here hx rfl (hb hby d18_34) rfl rfl kq_) ?_
  obtain ⟨T4, X4, e4, st4⟩ := getF X3 hx hZ hown (host := "") (Or.inl (w33 hw)) Via.refl e3 SN.2.1 (g := (mkF m 35 #[.val (.ref x1), .val (.int (9 : Int32)), .val (.int (12 : Int32)), .val (.int (12 : Int32)), .val (.int (3 : Int32))] [(.ref x1)])) rfl rfl (hb hby d18_35)
  refine Gl.of st4 ?_
  show Gl p e below _ (T4.setTop (mkF m 38 #[.val (.ref x1), .val (.int (9 : Int32)), .val (.int (12 : Int32)), .val (.int (12 : Int32)), .val (.int (3 : Int32))] [(.ref t1)]))
  refine Gl.of (fun _ kq_ => XS.iloadN X4.here hx rfl (hb hby d18_38) rfl kq_) ?_
  refine Gl.of (fun _ kq_ => XS.iload X4.here hx rfl (hb hby d18_39) rfl kq_) ?_
  refine Gl.callS X4 hx hZ (y := (⟨"java/lang/StringLatin1", "newString", "([BII)Ljava/lang/String;"⟩ : MethodName)) hown (w115 hw) (w116 hw) (w43 hw) (w117 hw) (desc_ne (by decide)) (rm := { frames := 4, cells := 2, slots := 16, locals := 98 }) (argsL := [(.ref t1), (.int (9 : Int32)), (.int (3 : Int32))]) (rest := []) (rmN2 l Z a0 hw _ t1 kb1 c0 c1 c2 c3 c4 c5 c6 c7 c8 c9 c10 c11 n0 SN.2.2.2.1 hfb SN.2.2.2.2.1 O0) 0 (by decide) (by decide) (by decide) (by decide) e4 (by rw [hml]; rfl) pd_8 rfl rfl (Nat.le_of_eq rfl) (hb hby d18_41) ?_
  intro v5 T5 L5 X5 hQ5
  obtain ⟨r5, t5, kb5, rfl, SG5, Kq5, Nq5⟩ := hQ5
  have N5 := Fr.app (Fr.nil n0) Nq5
  have gc6 := SN.keep Kq5 (by simp) (by simp)
  have ec7 := SN.1.keep Kq5
  have fc8 := SN.2.1.keep Kq5 (by simp)
  have fc9 := SN.2.2.1.keep Kq5 (by simp)
  have O5 := O0.keep Kq5 all0
  have K5 := K0.trans Kq5 (by intro x hx'; exact nomatch hx')
  show Gl p e below _ (T5.setTop (mkF m 44 #[.val (.ref x1), .val (.int (9 : Int32)), .val (.int (12 : Int32)), .val (.int (12 : Int32)), .val (.int (3 : Int32))] [(.ref r5)]))
  refine Gl.of (fun _ kq_ => XS.goto X5.here hx rfl (pc0 := 44) (pc' := 57) rfl (hb hby d18_44) (by decide) (by decide) kq_) ?_
  exact Gl.retR X5 hx hlk hret rfl rfl (hb hby d18_57) rfl (⟨_, _, _, rfl, SG5, K5, N5⟩) (by decide) (by decide)
theorem rmU2 (l : Launch) (Z : State) (a0 : Array Value) (hw : ∀ d ∈ tables_1, d.before a0 Z = true) (h0 : Heap) (x1 t1 : Addr) (kb1 : ClassId) (c0 c1 c2 c3 c4 c5 c6 c7 c8 c9 c10 c11 : Int32) (cz : Int32) (fm : Value) (n0 : Nat) (SN : Strg Z h0 x1 t1 kb1 [c0, c1, c2, c3, c4, c5, c6, c7, c8, c9, c10, c11]) (hfb : Z.vm.findClass "[B" = some kb1) (SC : Sta Z Z.heap "java/lang/String" "COMPACT_STRINGS" "Z" (.int cz)) (hcz : ¬ cz = 0) (SF : Sta Z Z.heap "jdk/internal/util/Preconditions" "SIOOBE_FORMATTER" "Ljava/util/function/BiFunction;" fm) (rf : fm.isRef = true) (O0 : Old Z n0 h0) : Con l Z (⟨"java/lang/String", "substring", "(I)Ljava/lang/String;"⟩ : MethodName) jdk_42_method_91_code 2 (some (.object "java/lang/String")) [] ({ frames := 6, cells := 2, slots := 16, locals := 131 } : Room) 2 16 #[(.ref x1), (.int (9 : Int32))] h0 (fun v h L => ∃ r t kb, v = some (.ref r) ∧ Strg Z h r t kb [c9, c10, c11] ∧ Keep h0 h [] ∧ Fr n0 L) := by
  refine Con.intro (plainFor_of_name pn_2) ?_
  intro p e s m below meth c s₁ X0 hx hby hml hZ hown hnm hret hlk e0 hs0
  refine Gl.of (fun _ kq_ => castTop (ef_13 m x1 (9 : Int32)) kq_) ?_
  have K0 := Keep.refl h0 []
  show Gl p e below _ (s₁.setTop (mkF m 0 #[.val (.ref x1), .val (.int (9 : Int32))] []))
  refine Gl.of (fun _ kq_ => XS.aloadN X0.here hx rfl (hb hby d17_0) rfl rfl kq_) ?_
  refine Gl.of (fun _ kq_ => XS.iloadN X0.here hx rfl (hb hby d17_1) rfl kq_) ?_
  refine Gl.of (fun _ kq_ => XS.aloadN X0.here hx rfl (hb hby d17_2) rfl rfl kq_) ?_
  refine Gl.callVB X0 hx hZ (y := (⟨"java/lang/String", "length", "()I"⟩ : MethodName)) (z := (⟨"java/lang/String", "length", "()I"⟩ : MethodName)) hown (w96 hw) (w79 hw) (notFace_of_selects (args := #[]) (mvT hZ (w81 hw))) (w81 hw) (w80 hw) (desc_ne (by decide)) (W := 2) (fun v => v = some (.int (12 : Int32))) (b := x1) (argsL := []) (rest := [(.int (9 : Int32)), (.ref x1)]) SN.1 (StrChars.Road.lenW (W := 2) hZ (own_wln hw) (kI := 4) (w7 hw) SN.1 SN.2.1 SN.2.2.1 SN.2.2.2.1 SN.cod SN.up (SC.ext O0.2) hcz SN.2.2.2.2.2 (by decide) (by decide)) (by decide) (by decide) e0 (by rw [hml]; rfl) pd_5 rfl rfl (Nat.le_of_eq rfl) (hb hby d17_3) ?_
  intro v1 T1 X1 e1 hv1
  subst hv1
  show Gl p e below _ (T1.setTop (mkF m 6 #[.val (.ref x1), .val (.int (9 : Int32))] [(.int (12 : Int32)), (.int (9 : Int32)), (.ref x1)]))
  refine Gl.callV X1 hx hZ (y := (⟨"java/lang/String", "substring", "(II)Ljava/lang/String;"⟩ : MethodName)) (z := (⟨"java/lang/String", "substring", "(II)Ljava/lang/String;"⟩ : MethodName)) hown (w97 hw) (w98 hw) (notFace_of_selects (args := #[]) (mvT hZ (w100 hw))) (w100 hw) (w99 hw) (w101 hw) (w8 hw) (desc_ne (by decide)) (rm := { frames := 5, cells := 2, slots := 16, locals := 113 }) (b := x1) (argsL := [(.int (9 : Int32)), (.int (12 : Int32))]) (rest := []) SN.1 (rmS2 l Z a0 hw _ x1 t1 kb1 c0 c1 c2 c3 c4 c5 c6 c7 c8 c9 c10 c11 cz fm n0 SN hfb SC hcz SF rf O0) 0 (by decide) (by decide) (by decide) (by decide) e1 (by rw [hml]; rfl) pd_9 rfl rfl (Nat.le_of_eq rfl) (hb hby d17_6) ?_
  intro v2 T2 L2 X2 hQ2
  obtain ⟨r2, t2, kb2, rfl, SG2, Kq2, Nq2⟩ := hQ2
  have N2 := Fr.app (Fr.nil n0) Nq2
  have gc3 := SN.keep Kq2 (by simp) (by simp)
  have ec4 := SN.1.keep Kq2
  have fc5 := SN.2.1.keep Kq2 (by simp)
  have fc6 := SN.2.2.1.keep Kq2 (by simp)
  have O2 := O0.keep Kq2 all0
  have K2 := K0.trans Kq2 (by intro x hx'; exact nomatch hx')
  show Gl p e below _ (T2.setTop (mkF m 9 #[.val (.ref x1), .val (.int (9 : Int32))] [(.ref r2)]))
  exact Gl.retR X2 hx hlk hret rfl rfl (hb hby d17_9) rfl (⟨_, _, _, rfl, SG2, K2, N2⟩) (by decide) (by decide)
theorem rmC2 (l : Launch) (Z : State) (a0 : Array Value) (hw : ∀ d ∈ tables_1, d.before a0 Z = true) (h0 : Heap) (a1 : Addr) (x1 t1 : Addr) (kb1 : ClassId) (c0 c1 c2 c3 c4 c5 c6 c7 c8 c9 c10 c11 : Int32) (cz : Int32) (fm : Value) (n0 : Nat) (Fq : Fld Z h0 a1 "com/example/rulr/rulr/policy/SqlCondition$Membership" "query" "Ljava/lang/String;" (.ref x1)) (Fs : Fld Z h0 a1 "com/example/rulr/rulr/policy/SqlCondition$Membership" "selected" "I" (.int (2 : Int32))) (SN : Strg Z h0 x1 t1 kb1 [c0, c1, c2, c3, c4, c5, c6, c7, c8, c9, c10, c11]) (hfb : Z.vm.findClass "[B" = some kb1) (SC : Sta Z Z.heap "java/lang/String" "COMPACT_STRINGS" "Z" (.int cz)) (hcz : ¬ cz = 0) (SF : Sta Z Z.heap "jdk/internal/util/Preconditions" "SIOOBE_FORMATTER" "Ljava/util/function/BiFunction;" fm) (rf : fm.isRef = true) (O0 : Old Z n0 h0) : ConH l Z own_EL (⟨"com/example/rulr/rulr/policy/SqlCondition$Membership", "condition", "()Ljava/lang/String;"⟩ : MethodName) prog_56_method_5_code 1 (some (.object "java/lang/String")) [] ({ frames := 7, cells := 4, slots := 48, locals := 145 } : Room) 4 48 #[(.ref a1)] h0 (fun v h L => ∃ r t kb, v = some (.ref r) ∧ Strg Z h r t kb [c9, c10, c11] ∧ Keep h0 h [] ∧ Fr n0 L) := by
  refine ConH.intro (plainFor_of_name pn_4) ?_
  intro p e s m below meth c s₁ X0 hx hby hml hZ hown hnm hret hlk e0 hs0 hR0
  refine Gl.of (fun _ kq_ => castTop (ef_14 m a1) kq_) ?_
  have hS0 := (State.WarmedH.refl s).since 0
  have hk0 : 0 ≤ h0.size := Nat.zero_le _
  have K0 := Keep.refl h0 []
  show Gl p e below _ (s₁.setTop (mkF m 0 #[.val (.ref a1)] []))
  refine Gl.of (fun _ kq_ => XS.aloadN X0.here hx rfl (hb hby d14_0) rfl rfl kq_) ?_
  obtain ⟨T1, X1, e1, st1⟩ := getF X0 hx hZ hown (host := "") (Or.inl (w67 hw)) Via.refl e0 Fs (g := (mkF m 1 #[.val (.ref a1)] [(.ref a1)])) rfl rfl (hb hby d14_1)
  refine Gl.of st1 ?_
  show Gl p e below _ (T1.setTop (mkF m 4 #[.val (.ref a1)] [(.int (2 : Int32))]))
  refine Gl.of (fun _ kq_ => XS.aloadN X1.here hx rfl (hb hby d14_4) rfl rfl kq_) ?_
  obtain ⟨T2, X2, e2, st2⟩ := getF X1 hx hZ hown (host := "") (Or.inl (w63 hw)) Via.refl e1 Fq (g := (mkF m 5 #[.val (.ref a1)] [(.ref a1), (.int (2 : Int32))])) rfl rfl (hb hby d14_5)
  refine Gl.of st2 ?_
  show Gl p e below _ (T2.setTop (mkF m 8 #[.val (.ref a1)] [(.ref x1), (.int (2 : Int32))]))
  refine Gl.callVB X2 hx hZ (y := (⟨"java/lang/String", "length", "()I"⟩ : MethodName)) (z := (⟨"java/lang/String", "length", "()I"⟩ : MethodName)) hown (w78 hw) (w79 hw) (notFace_of_selects (args := #[]) (mvT hZ (w81 hw))) (w81 hw) (w80 hw) (desc_ne (by decide)) (W := 1) (fun v => v = some (.int (12 : Int32))) (b := x1) (argsL := []) (rest := [(.int (2 : Int32))]) SN.1 (StrChars.Road.lenW (W := 1) hZ (own_wln hw) (kI := 4) (w7 hw) SN.1 SN.2.1 SN.2.2.1 SN.2.2.2.1 SN.cod SN.up (SC.ext O0.2) hcz SN.2.2.2.2.2 (by decide) (by decide)) (by decide) (by decide) e2 (by rw [hml]; rfl) pd_5 rfl rfl (Nat.le_of_eq rfl) (hb hby d14_8) ?_
  intro v3 T3 X3 e3 hv3
  subst hv3
  show Gl p e below _ (T3.setTop (mkF m 11 #[.val (.ref a1)] [(.int (12 : Int32)), (.int (2 : Int32))]))
  refine Gl.of (fun _ kq_ => XS.icmpYes X3.here hx rfl (pc0 := 11) (pc' := 18) rfl (hb hby d14_11) rfl (feq (by decide : ¬ ((2 : Int32) = (12 : Int32)))).2 (by decide) (by decide) kq_) ?_
  refine Gl.of (fun _ kq_ => XS.aloadN X3.here hx rfl (hb hby d14_18) rfl rfl kq_) ?_
  obtain ⟨T4, X4, e4, st4⟩ := getF X3 hx hZ hown (host := "") (Or.inl (w63 hw)) Via.refl e3 Fq (g := (mkF m 19 #[.val (.ref a1)] [(.ref a1)])) rfl rfl (hb hby d14_19)
  refine Gl.of st4 ?_
  show Gl p e below _ (T4.setTop (mkF m 22 #[.val (.ref a1)] [(.ref x1)]))
  refine Gl.of (fun _ kq_ => XS.aloadN X4.here hx rfl (hb hby d14_22) rfl rfl kq_) ?_
  obtain ⟨T5, X5, e5, st5⟩ := getF X4 hx hZ hown (host := "") (Or.inl (w67 hw)) Via.refl e4 Fs (g := (mkF m 23 #[.val (.ref a1)] [(.ref a1), (.ref x1)])) rfl rfl (hb hby d14_23)
  refine Gl.of st5 ?_
  show Gl p e below _ (T5.setTop (mkF m 26 #[.val (.ref a1)] [(.int (2 : Int32)), (.ref x1)]))
  obtain ⟨b6, T6, h6, k6, t6, kb6, X6, e6, E6, hS6, hk6, hZ, hown, Ea6, Ca6, Va6, Ba6, -, -, rr6, Li6, sf6, st6⟩ := ldcCH X5 hx hZ hown (w88 hw) (own_str hw) e5 hS0 hk0 (own_el hw) (by decide) hR0.1 (vs := (own_wh.map (fun c => c.toInt8.toInt32)).map Value.int) (z := Int32.ofNat own_wh.length) ⟨by decide, rfl⟩ (by decide) (by decide) (g := (mkF m 26 #[.val (.ref a1)] [(.int (2 : Int32)), (.ref x1)])) rfl (hb hby d14_26) (n := 28) (by decide) (by decide) (by decide) (by decide)
  refine Gl.of st6 ?_
  have hR6 := hR0.trans rr6
  have SG6 : Strg Z h6 b6 t6 kb6 own_wh := ⟨Ea6, Va6, Ca6, Ba6, by decide, by decide⟩
  have fc7 := Fq.ext E6
  have fc8 := Fs.ext E6
  have gc9 := SN.ext E6
  have ec10 := SN.1.ext E6
  have O6 := O0.ext E6
  have K6 := K0.ext E6
  show Gl p e below _ (T6.setTop (mkF m 28 #[.val (.ref a1)] [(.ref b6), (.int (2 : Int32)), (.ref x1)]))
  refine Gl.callVB X6 hx hZ (y := (⟨"java/lang/String", "length", "()I"⟩ : MethodName)) (z := (⟨"java/lang/String", "length", "()I"⟩ : MethodName)) hown (w78 hw) (w79 hw) (notFace_of_selects (args := #[]) (mvT hZ (w81 hw))) (w81 hw) (w80 hw) (desc_ne (by decide)) (W := 2) (fun v => v = some (.int (7 : Int32))) (b := b6) (argsL := []) (rest := [(.int (2 : Int32)), (.ref x1)]) SG6.1 (StrChars.Road.lenW (W := 2) hZ (own_wln hw) (kI := 4) (w7 hw) SG6.1 SG6.2.1 SG6.2.2.1 SG6.2.2.2.1 SG6.cod SG6.up (SC.ext O6.2) hcz SG6.2.2.2.2.2 (by decide) (by decide)) (by decide) (by decide) e6 (by rw [hml]; rfl) pd_5 rfl rfl (Nat.le_of_eq rfl) (hb hby d14_28) ?_
  intro v11 T11 X11 e11 hv11
  subst hv11
  show Gl p e below _ (T11.setTop (mkF m 31 #[.val (.ref a1)] [(.int (7 : Int32)), (.int (2 : Int32)), (.ref x1)]))
  refine Gl.of (fun _ kq_ => XS.iadd X11.here hx rfl (hb hby d14_31) rfl kq_) ?_
  show Gl p e below _ (T11.setTop (mkF m 32 #[.val (.ref a1)] [(.int (9 : Int32)), (.ref x1)]))
  refine Gl.callV X11 hx hZ (y := (⟨"java/lang/String", "substring", "(I)Ljava/lang/String;"⟩ : MethodName)) (z := (⟨"java/lang/String", "substring", "(I)Ljava/lang/String;"⟩ : MethodName)) hown (w91 hw) (w92 hw) (notFace_of_selects (args := #[]) (mvT hZ (w94 hw))) (w94 hw) (w93 hw) (w95 hw) (w8 hw) (desc_ne (by decide)) (rm := { frames := 6, cells := 2, slots := 16, locals := 131 }) (b := x1) (argsL := [(.int (9 : Int32))]) (rest := []) ec10 (rmU2 l Z a0 hw _ x1 t1 kb1 c0 c1 c2 c3 c4 c5 c6 c7 c8 c9 c10 c11 cz fm n0 gc9 hfb SC hcz SF rf O6) 0 (by decide) (by decide) (by decide) (by decide) e11 (by rw [hml]; rfl) pd_10 rfl rfl (Nat.le_of_eq rfl) (hb hby d14_32) ?_
  intro v12 T12 L12 X12 hQ12
  obtain ⟨r12, t12, kb12, rfl, SG12, Kq12, Nq12⟩ := hQ12
  have N12 := Fr.app (Fr.nil n0) Nq12
  have fc13 := fc7.keep Kq12 (by simp)
  have fc14 := fc8.keep Kq12 (by simp)
  have gc15 := gc9.keep Kq12 (by simp) (by simp)
  have ec16 := ec10.keep Kq12
  have gc17 := SG6.keep Kq12 (by simp) (by simp)
  have O12 := O6.keep Kq12 all0
  have K12 := K6.trans Kq12 (by intro x hx'; exact nomatch hx')
  have hk12 := Nat.le_trans hk6 Kq12.1
  have hRs := hR6.trans (CHr.keep Kq12 (fun x hx => nomatch hx) hR6.1)
  show Gl p e below _ (T12.setTop (mkF m 35 #[.val (.ref a1)] [(.ref r12)]))
  exact Gl.retRH X12 hx hlk hret rfl rfl (hb hby d14_35) rfl (⟨_, _, _, rfl, SG12, K12, N12⟩) hS6 hk12 hZ (own_el hw) hRs (by decide) (by decide)
theorem rmA20 (l : Launch) (Z : State) (a0 : Array Value) (hw : ∀ d ∈ tables_1, d.before a0 Z = true) (h0 : Heap) (x1 t1 a2 : Addr) (kb1 kq : ClassId) (c0 c1 c2 c3 c4 c5 c6 c7 c8 c9 c10 c11 : Int32) (cz : Int32) (fm : Value) (n0 : Nat) (SN : Strg Z h0 x1 t1 kb1 [c9, c10, c11]) (VQ : Arv Z h0 a2 kq .char (12 : Int32) [.int c0, .int c1, .int c2, .int c3, .int c4, .int c5, .int c6, .int c7, .int c8, .int c9, .int c10, .int c11] (.int 0)) (SC : Sta Z Z.heap "java/lang/String" "COMPACT_STRINGS" "Z" (.int cz)) (hcz : ¬ cz = 0) (SF : Sta Z Z.heap "jdk/internal/util/Preconditions" "SIOOBE_FORMATTER" "Ljava/util/function/BiFunction;" fm) (rf : fm.isRef = true) (O0 : Old Z n0 h0) : Con l Z (⟨"com/example/rulr/rulr/policy/MembershipConditionPinLaw", "at", "(Ljava/lang/String;[CII)Z"⟩ : MethodName) method_3_code 4 (some .boolean) [] ({ frames := 4, cells := 0, slots := 0, locals := 60 } : Room) 0 0 #[(.ref x1), (.ref a2), (.int (0 : Int32)), (.int (2 : Int32))] h0 (Pur (fun v => v = some (.int 1)) h0) := by
  refine Con.intro (plainFor_of_name pn_0) ?_
  intro p e s m below meth c s₁ X0 hx hby hml hZ hown hnm hret hlk e0 hs0
  refine Gl.of (fun _ kq_ => castTop (ef_15 m x1 a2 (0 : Int32) (2 : Int32)) kq_) ?_
  show Gl p e below _ (s₁.setTop (mkF m 0 #[.val (.ref x1), .val (.ref a2), .val (.int (0 : Int32)), .val (.int (2 : Int32))] []))
  refine Gl.of (fun _ kq_ => XS.iloadN X0.here hx rfl (hb hby d27_0) rfl kq_) ?_
  refine Gl.of (fun _ kq_ => XS.aloadN X0.here hx rfl (hb hby d27_1) rfl rfl kq_) ?_
  refine Gl.callVB X0 hx hZ (y := (⟨"java/lang/String", "length", "()I"⟩ : MethodName)) (z := (⟨"java/lang/String", "length", "()I"⟩ : MethodName)) hown (w138 hw) (w79 hw) (notFace_of_selects (args := #[]) (mvT hZ (w81 hw))) (w81 hw) (w80 hw) (desc_ne (by decide)) (W := 1) (fun v => v = some (.int (3 : Int32))) (b := x1) (argsL := []) (rest := [(.int (0 : Int32))]) SN.1 (StrChars.Road.lenW (W := 1) hZ (own_wln hw) (kI := 4) (w7 hw) SN.1 SN.2.1 SN.2.2.1 SN.2.2.2.1 SN.cod SN.up (SC.ext O0.2) hcz SN.2.2.2.2.2 (by decide) (by decide)) (by decide) (by decide) e0 (by rw [hml]; rfl) pd_5 rfl rfl (Nat.le_of_eq rfl) (hb hby d27_2) ?_
  intro v1 T1 X1 e1 hv1
  subst hv1
  show Gl p e below _ (T1.setTop (mkF m 5 #[.val (.ref x1), .val (.ref a2), .val (.int (0 : Int32)), .val (.int (2 : Int32))] [(.int (3 : Int32)), (.int (0 : Int32))]))
  refine Gl.of (fun _ kq_ => XS.icmpNo X1.here hx rfl (hb hby d27_5) rfl (tlt (by decide : (0 : Int32) < (3 : Int32))).2.1 kq_) ?_
  refine Gl.of (fun _ kq_ => XS.aloadN X1.here hx rfl (hb hby d27_8) rfl rfl kq_) ?_
  refine Gl.of (fun _ kq_ => XS.iloadN X1.here hx rfl (hb hby d27_9) rfl kq_) ?_
  refine Gl.callVB X1 hx hZ (y := (⟨"java/lang/String", "charAt", "(I)C"⟩ : MethodName)) (z := (⟨"java/lang/String", "charAt", "(I)C"⟩ : MethodName)) hown (w142 hw) (w143 hw) (notFace_of_selects (args := #[]) (mvT hZ (w145 hw))) (w145 hw) (w144 hw) (desc_ne (by decide)) (W := 0) (fun v => v = some (.int c9)) (b := x1) (argsL := [(.int (0 : Int32))]) (rest := []) SN.1 (StrChars.Road.chN (W := 0) hZ (own_wch hw) (kI := 4) (w7 hw) SN.1 SN.2.1 SN.2.2.1 SN.2.2.2.1 SN.cod SN.up (SC.ext O0.2) hcz (SF.ext O0.2) rf SN.2.2.2.2.2 (i := 0) (Nat.le_of_ble_eq_true rfl) (j := (0 : Int32)) rfl (by decide) (by decide)) (by decide) (by decide) e1 (by rw [hml]; rfl) pd_11 rfl rfl (Nat.le_of_eq rfl) (hb hby d27_10) ?_
  intro v2 T2 X2 e2 hv2
  subst hv2
  show Gl p e below _ (T2.setTop (mkF m 13 #[.val (.ref x1), .val (.ref a2), .val (.int (0 : Int32)), .val (.int (2 : Int32))] [(.int c9)]))
  refine Gl.of (fun _ kq_ => XS.aloadN X2.here hx rfl (hb hby d27_13) rfl rfl kq_) ?_
  refine Gl.of (fun _ kq_ => XS.iloadN X2.here hx rfl (hb hby d27_14) rfl kq_) ?_
  refine Gl.of (fun _ kq_ => XS.bipush X2.here hx rfl (hb hby d27_15) kq_) ?_
  refine Gl.of (fun _ kq_ => XS.iadd X2.here hx rfl (hb hby d27_17) rfl kq_) ?_
  show Gl p e below _ (T2.setTop (mkF m 18 #[.val (.ref x1), .val (.ref a2), .val (.int (0 : Int32)), .val (.int (2 : Int32))] [(.int (9 : Int32)), (.ref a2), (.int c9)]))
  refine Gl.of (fun _ kq_ => XS.iloadN X2.here hx rfl (hb hby d27_18) rfl kq_) ?_
  refine Gl.of (fun _ kq_ => XS.iadd X2.here hx rfl (hb hby d27_19) rfl kq_) ?_
  show Gl p e below _ (T2.setTop (mkF m 20 #[.val (.ref x1), .val (.ref a2), .val (.int (0 : Int32)), .val (.int (2 : Int32))] [(.int (9 : Int32)), (.ref a2), (.int c9)]))
  obtain ⟨zcl3, zAr3, zq3, zS3, zM3, zH3, zG3⟩ := id VQ
  refine Gl.of (fun _ kq_ => X2.caload hx (j := (9 : Int32)) (v := (.int c9)) (by rw [e2]; exact (zAr3).1) (State.isArrayOf_alike hZ.alike (zAr3).2.1) (zAr3).2.2 (inb_of zS3 ⟨by decide, by decide⟩) (zH3 9 (by rw [zS3]; decide)) (g := (mkF m 20 #[.val (.ref x1), .val (.ref a2), .val (.int (0 : Int32)), .val (.int (2 : Int32))] [(.int (9 : Int32)), (.ref a2), (.int c9)])) rfl rfl (hb hby d27_20) _ kq_) ?_
  show Gl p e below _ (T2.setTop (mkF m 21 #[.val (.ref x1), .val (.ref a2), .val (.int (0 : Int32)), .val (.int (2 : Int32))] [(.int c9), (.int c9)]))
  refine Gl.of (fun _ kq_ => XS.icmpNo X2.here hx rfl (hb hby d27_21) rfl (teq (rfl : c9 = c9)).2 kq_) ?_
  refine Gl.of (fun _ kq_ => XS.iconst X2.here hx rfl (hb hby d27_24) kq_) ?_
  refine Gl.of (fun _ kq_ => XS.goto X2.here hx rfl (pc0 := 25) (pc' := 29) rfl (hb hby d27_25) (by decide) (by decide) kq_) ?_
  exact Gl.retN X2 hx hlk hret (by simp) (hb hby d27_29) e2 (⟨rfl, rfl, rfl⟩) (by decide) (by decide)
theorem rmA21 (l : Launch) (Z : State) (a0 : Array Value) (hw : ∀ d ∈ tables_1, d.before a0 Z = true) (h0 : Heap) (x1 t1 a2 : Addr) (kb1 kq : ClassId) (c0 c1 c2 c3 c4 c5 c6 c7 c8 c9 c10 c11 : Int32) (cz : Int32) (fm : Value) (n0 : Nat) (SN : Strg Z h0 x1 t1 kb1 [c9, c10, c11]) (VQ : Arv Z h0 a2 kq .char (12 : Int32) [.int c0, .int c1, .int c2, .int c3, .int c4, .int c5, .int c6, .int c7, .int c8, .int c9, .int c10, .int c11] (.int 0)) (SC : Sta Z Z.heap "java/lang/String" "COMPACT_STRINGS" "Z" (.int cz)) (hcz : ¬ cz = 0) (SF : Sta Z Z.heap "jdk/internal/util/Preconditions" "SIOOBE_FORMATTER" "Ljava/util/function/BiFunction;" fm) (rf : fm.isRef = true) (O0 : Old Z n0 h0) : Con l Z (⟨"com/example/rulr/rulr/policy/MembershipConditionPinLaw", "at", "(Ljava/lang/String;[CII)Z"⟩ : MethodName) method_3_code 4 (some .boolean) [] ({ frames := 4, cells := 0, slots := 0, locals := 60 } : Room) 0 0 #[(.ref x1), (.ref a2), (.int (1 : Int32)), (.int (2 : Int32))] h0 (Pur (fun v => v = some (.int 1)) h0) := by
  refine Con.intro (plainFor_of_name pn_0) ?_
  intro p e s m below meth c s₁ X0 hx hby hml hZ hown hnm hret hlk e0 hs0
  refine Gl.of (fun _ kq_ => castTop (ef_15 m x1 a2 (1 : Int32) (2 : Int32)) kq_) ?_
  show Gl p e below _ (s₁.setTop (mkF m 0 #[.val (.ref x1), .val (.ref a2), .val (.int (1 : Int32)), .val (.int (2 : Int32))] []))
  refine Gl.of (fun _ kq_ => XS.iloadN X0.here hx rfl (hb hby d27_0) rfl kq_) ?_
  refine Gl.of (fun _ kq_ => XS.aloadN X0.here hx rfl (hb hby d27_1) rfl rfl kq_) ?_
  refine Gl.callVB X0 hx hZ (y := (⟨"java/lang/String", "length", "()I"⟩ : MethodName)) (z := (⟨"java/lang/String", "length", "()I"⟩ : MethodName)) hown (w138 hw) (w79 hw) (notFace_of_selects (args := #[]) (mvT hZ (w81 hw))) (w81 hw) (w80 hw) (desc_ne (by decide)) (W := 1) (fun v => v = some (.int (3 : Int32))) (b := x1) (argsL := []) (rest := [(.int (1 : Int32))]) SN.1 (StrChars.Road.lenW (W := 1) hZ (own_wln hw) (kI := 4) (w7 hw) SN.1 SN.2.1 SN.2.2.1 SN.2.2.2.1 SN.cod SN.up (SC.ext O0.2) hcz SN.2.2.2.2.2 (by decide) (by decide)) (by decide) (by decide) e0 (by rw [hml]; rfl) pd_5 rfl rfl (Nat.le_of_eq rfl) (hb hby d27_2) ?_
  intro v1 T1 X1 e1 hv1
  subst hv1
  show Gl p e below _ (T1.setTop (mkF m 5 #[.val (.ref x1), .val (.ref a2), .val (.int (1 : Int32)), .val (.int (2 : Int32))] [(.int (3 : Int32)), (.int (1 : Int32))]))
  refine Gl.of (fun _ kq_ => XS.icmpNo X1.here hx rfl (hb hby d27_5) rfl (tlt (by decide : (1 : Int32) < (3 : Int32))).2.1 kq_) ?_
  refine Gl.of (fun _ kq_ => XS.aloadN X1.here hx rfl (hb hby d27_8) rfl rfl kq_) ?_
  refine Gl.of (fun _ kq_ => XS.iloadN X1.here hx rfl (hb hby d27_9) rfl kq_) ?_
  refine Gl.callVB X1 hx hZ (y := (⟨"java/lang/String", "charAt", "(I)C"⟩ : MethodName)) (z := (⟨"java/lang/String", "charAt", "(I)C"⟩ : MethodName)) hown (w142 hw) (w143 hw) (notFace_of_selects (args := #[]) (mvT hZ (w145 hw))) (w145 hw) (w144 hw) (desc_ne (by decide)) (W := 0) (fun v => v = some (.int c10)) (b := x1) (argsL := [(.int (1 : Int32))]) (rest := []) SN.1 (StrChars.Road.chN (W := 0) hZ (own_wch hw) (kI := 4) (w7 hw) SN.1 SN.2.1 SN.2.2.1 SN.2.2.2.1 SN.cod SN.up (SC.ext O0.2) hcz (SF.ext O0.2) rf SN.2.2.2.2.2 (i := 1) (Nat.le_of_ble_eq_true rfl) (j := (1 : Int32)) rfl (by decide) (by decide)) (by decide) (by decide) e1 (by rw [hml]; rfl) pd_11 rfl rfl (Nat.le_of_eq rfl) (hb hby d27_10) ?_
  intro v2 T2 X2 e2 hv2
  subst hv2
  show Gl p e below _ (T2.setTop (mkF m 13 #[.val (.ref x1), .val (.ref a2), .val (.int (1 : Int32)), .val (.int (2 : Int32))] [(.int c10)]))
  refine Gl.of (fun _ kq_ => XS.aloadN X2.here hx rfl (hb hby d27_13) rfl rfl kq_) ?_
  refine Gl.of (fun _ kq_ => XS.iloadN X2.here hx rfl (hb hby d27_14) rfl kq_) ?_
  refine Gl.of (fun _ kq_ => XS.bipush X2.here hx rfl (hb hby d27_15) kq_) ?_
  refine Gl.of (fun _ kq_ => XS.iadd X2.here hx rfl (hb hby d27_17) rfl kq_) ?_
  show Gl p e below _ (T2.setTop (mkF m 18 #[.val (.ref x1), .val (.ref a2), .val (.int (1 : Int32)), .val (.int (2 : Int32))] [(.int (9 : Int32)), (.ref a2), (.int c10)]))
  refine Gl.of (fun _ kq_ => XS.iloadN X2.here hx rfl (hb hby d27_18) rfl kq_) ?_
  refine Gl.of (fun _ kq_ => XS.iadd X2.here hx rfl (hb hby d27_19) rfl kq_) ?_
  show Gl p e below _ (T2.setTop (mkF m 20 #[.val (.ref x1), .val (.ref a2), .val (.int (1 : Int32)), .val (.int (2 : Int32))] [(.int (10 : Int32)), (.ref a2), (.int c10)]))
  obtain ⟨zcl3, zAr3, zq3, zS3, zM3, zH3, zG3⟩ := id VQ
  refine Gl.of (fun _ kq_ => X2.caload hx (j := (10 : Int32)) (v := (.int c10)) (by rw [e2]; exact (zAr3).1) (State.isArrayOf_alike hZ.alike (zAr3).2.1) (zAr3).2.2 (inb_of zS3 ⟨by decide, by decide⟩) (zH3 10 (by rw [zS3]; decide)) (g := (mkF m 20 #[.val (.ref x1), .val (.ref a2), .val (.int (1 : Int32)), .val (.int (2 : Int32))] [(.int (10 : Int32)), (.ref a2), (.int c10)])) rfl rfl (hb hby d27_20) _ kq_) ?_
  show Gl p e below _ (T2.setTop (mkF m 21 #[.val (.ref x1), .val (.ref a2), .val (.int (1 : Int32)), .val (.int (2 : Int32))] [(.int c10), (.int c10)]))
  refine Gl.of (fun _ kq_ => XS.icmpNo X2.here hx rfl (hb hby d27_21) rfl (teq (rfl : c10 = c10)).2 kq_) ?_
  refine Gl.of (fun _ kq_ => XS.iconst X2.here hx rfl (hb hby d27_24) kq_) ?_
  refine Gl.of (fun _ kq_ => XS.goto X2.here hx rfl (pc0 := 25) (pc' := 29) rfl (hb hby d27_25) (by decide) (by decide) kq_) ?_
  exact Gl.retN X2 hx hlk hret (by simp) (hb hby d27_29) e2 (⟨rfl, rfl, rfl⟩) (by decide) (by decide)
theorem rmA22 (l : Launch) (Z : State) (a0 : Array Value) (hw : ∀ d ∈ tables_1, d.before a0 Z = true) (h0 : Heap) (x1 t1 a2 : Addr) (kb1 kq : ClassId) (c0 c1 c2 c3 c4 c5 c6 c7 c8 c9 c10 c11 : Int32) (cz : Int32) (fm : Value) (n0 : Nat) (SN : Strg Z h0 x1 t1 kb1 [c9, c10, c11]) (VQ : Arv Z h0 a2 kq .char (12 : Int32) [.int c0, .int c1, .int c2, .int c3, .int c4, .int c5, .int c6, .int c7, .int c8, .int c9, .int c10, .int c11] (.int 0)) (SC : Sta Z Z.heap "java/lang/String" "COMPACT_STRINGS" "Z" (.int cz)) (hcz : ¬ cz = 0) (SF : Sta Z Z.heap "jdk/internal/util/Preconditions" "SIOOBE_FORMATTER" "Ljava/util/function/BiFunction;" fm) (rf : fm.isRef = true) (O0 : Old Z n0 h0) : Con l Z (⟨"com/example/rulr/rulr/policy/MembershipConditionPinLaw", "at", "(Ljava/lang/String;[CII)Z"⟩ : MethodName) method_3_code 4 (some .boolean) [] ({ frames := 4, cells := 0, slots := 0, locals := 60 } : Room) 0 0 #[(.ref x1), (.ref a2), (.int (2 : Int32)), (.int (2 : Int32))] h0 (Pur (fun v => v = some (.int 1)) h0) := by
  refine Con.intro (plainFor_of_name pn_0) ?_
  intro p e s m below meth c s₁ X0 hx hby hml hZ hown hnm hret hlk e0 hs0
  refine Gl.of (fun _ kq_ => castTop (ef_15 m x1 a2 (2 : Int32) (2 : Int32)) kq_) ?_
  show Gl p e below _ (s₁.setTop (mkF m 0 #[.val (.ref x1), .val (.ref a2), .val (.int (2 : Int32)), .val (.int (2 : Int32))] []))
  refine Gl.of (fun _ kq_ => XS.iloadN X0.here hx rfl (hb hby d27_0) rfl kq_) ?_
  refine Gl.of (fun _ kq_ => XS.aloadN X0.here hx rfl (hb hby d27_1) rfl rfl kq_) ?_
  refine Gl.callVB X0 hx hZ (y := (⟨"java/lang/String", "length", "()I"⟩ : MethodName)) (z := (⟨"java/lang/String", "length", "()I"⟩ : MethodName)) hown (w138 hw) (w79 hw) (notFace_of_selects (args := #[]) (mvT hZ (w81 hw))) (w81 hw) (w80 hw) (desc_ne (by decide)) (W := 1) (fun v => v = some (.int (3 : Int32))) (b := x1) (argsL := []) (rest := [(.int (2 : Int32))]) SN.1 (StrChars.Road.lenW (W := 1) hZ (own_wln hw) (kI := 4) (w7 hw) SN.1 SN.2.1 SN.2.2.1 SN.2.2.2.1 SN.cod SN.up (SC.ext O0.2) hcz SN.2.2.2.2.2 (by decide) (by decide)) (by decide) (by decide) e0 (by rw [hml]; rfl) pd_5 rfl rfl (Nat.le_of_eq rfl) (hb hby d27_2) ?_
  intro v1 T1 X1 e1 hv1
  subst hv1
  show Gl p e below _ (T1.setTop (mkF m 5 #[.val (.ref x1), .val (.ref a2), .val (.int (2 : Int32)), .val (.int (2 : Int32))] [(.int (3 : Int32)), (.int (2 : Int32))]))
  refine Gl.of (fun _ kq_ => XS.icmpNo X1.here hx rfl (hb hby d27_5) rfl (tlt (by decide : (2 : Int32) < (3 : Int32))).2.1 kq_) ?_
  refine Gl.of (fun _ kq_ => XS.aloadN X1.here hx rfl (hb hby d27_8) rfl rfl kq_) ?_
  refine Gl.of (fun _ kq_ => XS.iloadN X1.here hx rfl (hb hby d27_9) rfl kq_) ?_
  refine Gl.callVB X1 hx hZ (y := (⟨"java/lang/String", "charAt", "(I)C"⟩ : MethodName)) (z := (⟨"java/lang/String", "charAt", "(I)C"⟩ : MethodName)) hown (w142 hw) (w143 hw) (notFace_of_selects (args := #[]) (mvT hZ (w145 hw))) (w145 hw) (w144 hw) (desc_ne (by decide)) (W := 0) (fun v => v = some (.int c11)) (b := x1) (argsL := [(.int (2 : Int32))]) (rest := []) SN.1 (StrChars.Road.chN (W := 0) hZ (own_wch hw) (kI := 4) (w7 hw) SN.1 SN.2.1 SN.2.2.1 SN.2.2.2.1 SN.cod SN.up (SC.ext O0.2) hcz (SF.ext O0.2) rf SN.2.2.2.2.2 (i := 2) (Nat.le_of_ble_eq_true rfl) (j := (2 : Int32)) rfl (by decide) (by decide)) (by decide) (by decide) e1 (by rw [hml]; rfl) pd_11 rfl rfl (Nat.le_of_eq rfl) (hb hby d27_10) ?_
  intro v2 T2 X2 e2 hv2
  subst hv2
  show Gl p e below _ (T2.setTop (mkF m 13 #[.val (.ref x1), .val (.ref a2), .val (.int (2 : Int32)), .val (.int (2 : Int32))] [(.int c11)]))
  refine Gl.of (fun _ kq_ => XS.aloadN X2.here hx rfl (hb hby d27_13) rfl rfl kq_) ?_
  refine Gl.of (fun _ kq_ => XS.iloadN X2.here hx rfl (hb hby d27_14) rfl kq_) ?_
  refine Gl.of (fun _ kq_ => XS.bipush X2.here hx rfl (hb hby d27_15) kq_) ?_
  refine Gl.of (fun _ kq_ => XS.iadd X2.here hx rfl (hb hby d27_17) rfl kq_) ?_
  show Gl p e below _ (T2.setTop (mkF m 18 #[.val (.ref x1), .val (.ref a2), .val (.int (2 : Int32)), .val (.int (2 : Int32))] [(.int (9 : Int32)), (.ref a2), (.int c11)]))
  refine Gl.of (fun _ kq_ => XS.iloadN X2.here hx rfl (hb hby d27_18) rfl kq_) ?_
  refine Gl.of (fun _ kq_ => XS.iadd X2.here hx rfl (hb hby d27_19) rfl kq_) ?_
  show Gl p e below _ (T2.setTop (mkF m 20 #[.val (.ref x1), .val (.ref a2), .val (.int (2 : Int32)), .val (.int (2 : Int32))] [(.int (11 : Int32)), (.ref a2), (.int c11)]))
  obtain ⟨zcl3, zAr3, zq3, zS3, zM3, zH3, zG3⟩ := id VQ
  refine Gl.of (fun _ kq_ => X2.caload hx (j := (11 : Int32)) (v := (.int c11)) (by rw [e2]; exact (zAr3).1) (State.isArrayOf_alike hZ.alike (zAr3).2.1) (zAr3).2.2 (inb_of zS3 ⟨by decide, by decide⟩) (zH3 11 (by rw [zS3]; decide)) (g := (mkF m 20 #[.val (.ref x1), .val (.ref a2), .val (.int (2 : Int32)), .val (.int (2 : Int32))] [(.int (11 : Int32)), (.ref a2), (.int c11)])) rfl rfl (hb hby d27_20) _ kq_) ?_
  show Gl p e below _ (T2.setTop (mkF m 21 #[.val (.ref x1), .val (.ref a2), .val (.int (2 : Int32)), .val (.int (2 : Int32))] [(.int c11), (.int c11)]))
  refine Gl.of (fun _ kq_ => XS.icmpNo X2.here hx rfl (hb hby d27_21) rfl (teq (rfl : c11 = c11)).2 kq_) ?_
  refine Gl.of (fun _ kq_ => XS.iconst X2.here hx rfl (hb hby d27_24) kq_) ?_
  refine Gl.of (fun _ kq_ => XS.goto X2.here hx rfl (pc0 := 25) (pc' := 29) rfl (hb hby d27_25) (by decide) (by decide) kq_) ?_
  exact Gl.retN X2 hx hlk hret (by simp) (hb hby d27_29) e2 (⟨rfl, rfl, rfl⟩) (by decide) (by decide)
theorem rmA23 (l : Launch) (Z : State) (a0 : Array Value) (hw : ∀ d ∈ tables_1, d.before a0 Z = true) (h0 : Heap) (x1 t1 a2 : Addr) (kb1 kq : ClassId) (c0 c1 c2 c3 c4 c5 c6 c7 c8 c9 c10 c11 : Int32) (cz : Int32) (fm : Value) (n0 : Nat) (SN : Strg Z h0 x1 t1 kb1 [c9, c10, c11]) (VQ : Arv Z h0 a2 kq .char (12 : Int32) [.int c0, .int c1, .int c2, .int c3, .int c4, .int c5, .int c6, .int c7, .int c8, .int c9, .int c10, .int c11] (.int 0)) (SC : Sta Z Z.heap "java/lang/String" "COMPACT_STRINGS" "Z" (.int cz)) (hcz : ¬ cz = 0) (SF : Sta Z Z.heap "jdk/internal/util/Preconditions" "SIOOBE_FORMATTER" "Ljava/util/function/BiFunction;" fm) (rf : fm.isRef = true) (O0 : Old Z n0 h0) : Con l Z (⟨"com/example/rulr/rulr/policy/MembershipConditionPinLaw", "at", "(Ljava/lang/String;[CII)Z"⟩ : MethodName) method_3_code 4 (some .boolean) [] ({ frames := 4, cells := 0, slots := 0, locals := 60 } : Room) 0 0 #[(.ref x1), (.ref a2), (.int (3 : Int32)), (.int (2 : Int32))] h0 (Pur (fun v => v = some (.int 1)) h0) := by
  refine Con.intro (plainFor_of_name pn_0) ?_
  intro p e s m below meth c s₁ X0 hx hby hml hZ hown hnm hret hlk e0 hs0
  refine Gl.of (fun _ kq_ => castTop (ef_15 m x1 a2 (3 : Int32) (2 : Int32)) kq_) ?_
  show Gl p e below _ (s₁.setTop (mkF m 0 #[.val (.ref x1), .val (.ref a2), .val (.int (3 : Int32)), .val (.int (2 : Int32))] []))
  refine Gl.of (fun _ kq_ => XS.iloadN X0.here hx rfl (hb hby d27_0) rfl kq_) ?_
  refine Gl.of (fun _ kq_ => XS.aloadN X0.here hx rfl (hb hby d27_1) rfl rfl kq_) ?_
  refine Gl.callVB X0 hx hZ (y := (⟨"java/lang/String", "length", "()I"⟩ : MethodName)) (z := (⟨"java/lang/String", "length", "()I"⟩ : MethodName)) hown (w138 hw) (w79 hw) (notFace_of_selects (args := #[]) (mvT hZ (w81 hw))) (w81 hw) (w80 hw) (desc_ne (by decide)) (W := 1) (fun v => v = some (.int (3 : Int32))) (b := x1) (argsL := []) (rest := [(.int (3 : Int32))]) SN.1 (StrChars.Road.lenW (W := 1) hZ (own_wln hw) (kI := 4) (w7 hw) SN.1 SN.2.1 SN.2.2.1 SN.2.2.2.1 SN.cod SN.up (SC.ext O0.2) hcz SN.2.2.2.2.2 (by decide) (by decide)) (by decide) (by decide) e0 (by rw [hml]; rfl) pd_5 rfl rfl (Nat.le_of_eq rfl) (hb hby d27_2) ?_
  intro v1 T1 X1 e1 hv1
  subst hv1
  show Gl p e below _ (T1.setTop (mkF m 5 #[.val (.ref x1), .val (.ref a2), .val (.int (3 : Int32)), .val (.int (2 : Int32))] [(.int (3 : Int32)), (.int (3 : Int32))]))
  refine Gl.of (fun _ kq_ => XS.icmpYes X1.here hx rfl (pc0 := 5) (pc' := 24) rfl (hb hby d27_5) rfl (flt (by decide : ¬ ((3 : Int32) < (3 : Int32)))).2.1 (by decide) (by decide) kq_) ?_
  refine Gl.of (fun _ kq_ => XS.iconst X1.here hx rfl (hb hby d27_24) kq_) ?_
  refine Gl.of (fun _ kq_ => XS.goto X1.here hx rfl (pc0 := 25) (pc' := 29) rfl (hb hby d27_25) (by decide) (by decide) kq_) ?_
  exact Gl.retN X1 hx hlk hret (by simp) (hb hby d27_29) e1 (⟨rfl, rfl, rfl⟩) (by decide) (by decide)
theorem rmA24 (l : Launch) (Z : State) (a0 : Array Value) (hw : ∀ d ∈ tables_1, d.before a0 Z = true) (h0 : Heap) (x1 t1 a2 : Addr) (kb1 kq : ClassId) (c0 c1 c2 c3 c4 c5 c6 c7 c8 c9 c10 c11 : Int32) (cz : Int32) (fm : Value) (n0 : Nat) (SN : Strg Z h0 x1 t1 kb1 [c9, c10, c11]) (VQ : Arv Z h0 a2 kq .char (12 : Int32) [.int c0, .int c1, .int c2, .int c3, .int c4, .int c5, .int c6, .int c7, .int c8, .int c9, .int c10, .int c11] (.int 0)) (SC : Sta Z Z.heap "java/lang/String" "COMPACT_STRINGS" "Z" (.int cz)) (hcz : ¬ cz = 0) (SF : Sta Z Z.heap "jdk/internal/util/Preconditions" "SIOOBE_FORMATTER" "Ljava/util/function/BiFunction;" fm) (rf : fm.isRef = true) (O0 : Old Z n0 h0) : Con l Z (⟨"com/example/rulr/rulr/policy/MembershipConditionPinLaw", "at", "(Ljava/lang/String;[CII)Z"⟩ : MethodName) method_3_code 4 (some .boolean) [] ({ frames := 4, cells := 0, slots := 0, locals := 60 } : Room) 0 0 #[(.ref x1), (.ref a2), (.int (4 : Int32)), (.int (2 : Int32))] h0 (Pur (fun v => v = some (.int 1)) h0) := by
  refine Con.intro (plainFor_of_name pn_0) ?_
  intro p e s m below meth c s₁ X0 hx hby hml hZ hown hnm hret hlk e0 hs0
  refine Gl.of (fun _ kq_ => castTop (ef_15 m x1 a2 (4 : Int32) (2 : Int32)) kq_) ?_
  show Gl p e below _ (s₁.setTop (mkF m 0 #[.val (.ref x1), .val (.ref a2), .val (.int (4 : Int32)), .val (.int (2 : Int32))] []))
  refine Gl.of (fun _ kq_ => XS.iloadN X0.here hx rfl (hb hby d27_0) rfl kq_) ?_
  refine Gl.of (fun _ kq_ => XS.aloadN X0.here hx rfl (hb hby d27_1) rfl rfl kq_) ?_
  refine Gl.callVB X0 hx hZ (y := (⟨"java/lang/String", "length", "()I"⟩ : MethodName)) (z := (⟨"java/lang/String", "length", "()I"⟩ : MethodName)) hown (w138 hw) (w79 hw) (notFace_of_selects (args := #[]) (mvT hZ (w81 hw))) (w81 hw) (w80 hw) (desc_ne (by decide)) (W := 1) (fun v => v = some (.int (3 : Int32))) (b := x1) (argsL := []) (rest := [(.int (4 : Int32))]) SN.1 (StrChars.Road.lenW (W := 1) hZ (own_wln hw) (kI := 4) (w7 hw) SN.1 SN.2.1 SN.2.2.1 SN.2.2.2.1 SN.cod SN.up (SC.ext O0.2) hcz SN.2.2.2.2.2 (by decide) (by decide)) (by decide) (by decide) e0 (by rw [hml]; rfl) pd_5 rfl rfl (Nat.le_of_eq rfl) (hb hby d27_2) ?_
  intro v1 T1 X1 e1 hv1
  subst hv1
  show Gl p e below _ (T1.setTop (mkF m 5 #[.val (.ref x1), .val (.ref a2), .val (.int (4 : Int32)), .val (.int (2 : Int32))] [(.int (3 : Int32)), (.int (4 : Int32))]))
  refine Gl.of (fun _ kq_ => XS.icmpYes X1.here hx rfl (pc0 := 5) (pc' := 24) rfl (hb hby d27_5) rfl (flt (by decide : ¬ ((4 : Int32) < (3 : Int32)))).2.1 (by decide) (by decide) kq_) ?_
  refine Gl.of (fun _ kq_ => XS.iconst X1.here hx rfl (hb hby d27_24) kq_) ?_
  refine Gl.of (fun _ kq_ => XS.goto X1.here hx rfl (pc0 := 25) (pc' := 29) rfl (hb hby d27_25) (by decide) (by decide) kq_) ?_
  exact Gl.retN X1 hx hlk hret (by simp) (hb hby d27_29) e1 (⟨rfl, rfl, rfl⟩) (by decide) (by decide)
theorem rmN3 (l : Launch) (Z : State) (a0 : Array Value) (hw : ∀ d ∈ tables_1, d.before a0 Z = true) (h0 : Heap) (t1 : Addr) (kb1 : ClassId) (c0 c1 c2 c3 c4 c5 c6 c7 c8 c9 c10 c11 : Int32) (n0 : Nat) (V1 : Arv Z h0 t1 kb1 .byte (Int32.ofNat 12) ((([c0, c1, c2, c3, c4, c5, c6, c7, c8, c9, c10, c11] : List Int32).map (fun c => c.toInt8.toInt32)).map Value.int) (.int 0)) (hfb : Z.vm.findClass "[B" = some kb1) (hr : ∀ c ∈ ([c0, c1, c2, c3, c4, c5, c6, c7, c8, c9, c10, c11] : List Int32), ¬ c < 0 ∧ ¬ (255 : Int32) < c) (O0 : Old Z n0 h0) : Con l Z (⟨"java/lang/StringLatin1", "newString", "([BII)Ljava/lang/String;"⟩ : MethodName) jdk_43_method_47_code 3 (some (.object "java/lang/String")) [] ({ frames := 4, cells := 2, slots := 16, locals := 98 } : Room) 2 16 #[(.ref t1), (.int (10 : Int32)), (.int (2 : Int32))] h0 (fun v h L => ∃ r t kb, v = some (.ref r) ∧ Strg Z h r t kb [c10, c11] ∧ Keep h0 h [] ∧ Fr n0 L) := by
  refine Con.intro (plainFor_of_name pn_1) ?_
  intro p e s m below meth c s₁ X0 hx hby hml hZ hown hnm hret hlk e0 hs0
  refine Gl.of (fun _ kq_ => castTop (ef_11 m t1 (10 : Int32) (2 : Int32)) kq_) ?_
  have K0 := Keep.refl h0 []
  show Gl p e below _ (s₁.setTop (mkF m 0 #[.val (.ref t1), .val (.int (10 : Int32)), .val (.int (2 : Int32))] []))
  refine Gl.of (fun _ kq_ => XS.iloadN X0.here hx rfl (hb hby d22_0) rfl kq_) ?_
  refine Gl.of (fun _ kq_ => XS.ifYes X0.here hx rfl (pc0 := 1) (pc' := 7) rfl (hb hby d22_1) rfl ((if0 _ _).trans (feq (by decide : ¬ ((2 : Int32) = (0 : Int32)))).2) (by decide) (by decide) kq_) ?_
  obtain ⟨T1, h1, X1, e1, E1, A1, D1, -, st1⟩ := newO X0 hx hZ hown (w118 hw) (w7 hw) (w8 hw) e0 (g := (mkF m 7 #[.val (.ref t1), .val (.int (10 : Int32)), .val (.int (2 : Int32))] [])) rfl (hb hby d22_7) (by decide) (by decide)
  obtain ⟨b1, g1⟩ : ∃ z, z = h0.size := ⟨_, rfl⟩
  rw [← g1] at A1 D1 st1
  refine Gl.of st1 ?_
  have Gb1 : n0 ≤ b1 := Nat.le_trans (O0.1 ▸ O0.2.1) (Nat.le_of_eq g1.symm)
  have Jb1 : h0.size ≤ b1 := Nat.le_trans K0.1 (Nat.le_of_eq g1.symm)
  have ne_t1_b1 : t1 ≠ b1 := Nat.ne_of_lt (Nat.lt_of_lt_of_le V1.lt (Nat.le_of_eq g1.symm))
  have vc2 := V1.ext E1
  have O1 := O0.ext E1
  have K1 := K0.ext E1
  have F1_coder : Fld Z h1 b1 "java/lang/String" "coder" "B" (.int (0 : Int32)) := D1 (Or.inr (w32 hw)) (ty := .byte) (by decide)
  have F1_value : Fld Z h1 b1 "java/lang/String" "value" "[B" .null := D1 (Or.inr (w34 hw)) (ty := (.array .byte)) (by decide)
  show Gl p e below _ (T1.setTop (mkF m 10 #[.val (.ref t1), .val (.int (10 : Int32)), .val (.int (2 : Int32))] [(.ref b1)]))
  refine Gl.of (fun _ kq_ => XS.dup X1.here hx rfl (hb hby d22_10) rfl rfl kq_) ?_
  refine Gl.of (fun _ kq_ => XS.aloadN X1.here hx rfl (hb hby d22_11) rfl rfl kq_) ?_
  refine Gl.of (fun _ kq_ => XS.iloadN X1.here hx rfl (hb hby d22_12) rfl kq_) ?_
  refine Gl.of (fun _ kq_ => XS.iloadN X1.here hx rfl (hb hby d22_13) rfl kq_) ?_
  refine Gl.of (fun _ kq_ => XS.iloadN X1.here hx rfl (hb hby d22_14) rfl kq_) ?_
  refine Gl.of (fun _ kq_ => XS.iadd X1.here hx rfl (hb hby d22_15) rfl kq_) ?_
  show Gl p e below _ (T1.setTop (mkF m 16 #[.val (.ref t1), .val (.int (10 : Int32)), .val (.int (2 : Int32))] [(.int (12 : Int32)), (.int (10 : Int32)), (.ref t1), (.ref b1), (.ref b1)]))
  refine Gl.callCor X1 hx hZ hown (w119 hw) (w120 hw) (w121 hw) (w122 hw) (own_cor hw) vc2 hfb (fr := 10) (to := 12) (cap := 12) rfl (by decide) (by decide) (by decide) (by decide) (by decide) (vs' := (([c10, c11] : List Int32).map (fun c => c.toInt8.toInt32)).map Value.int) rfl (n := 2) rfl (by decide) (W := 2) (rest := [(.ref b1), (.ref b1)]) (by decide) (by decide) (by decide) (by decide) e1 rfl rfl (by rw [hml]; rfl) rfl (Nat.le_of_eq rfl) (hb hby d22_16) ?_
  intro r3 T3 X3 E3 Gr3 Vr3
  have ne_t1_r3 : t1 ≠ r3 := Nat.ne_of_lt (Nat.lt_of_lt_of_le vc2.lt Gr3)
  have ne_b1_r3 : b1 ≠ r3 := Nat.ne_of_lt (Nat.lt_of_lt_of_le A1.lt Gr3)
  have vc4 := vc2.ext E3
  have ec5 := A1.ext E3
  have fc6 := F1_coder.ext E3
  have fc7 := F1_value.ext E3
  have O3 := O1.ext E3
  have K3 := K1.ext E3
  show Gl p e below _ (T3.setTop (mkF m 19 #[.val (.ref t1), .val (.int (10 : Int32)), .val (.int (2 : Int32))] [(.ref r3), (.ref b1), (.ref b1)]))
  refine Gl.of (fun _ kq_ => XS.iconst X3.here hx rfl (hb hby d22_19) kq_) ?_
  refine Gl.callI X3 hx hZ (y := (⟨"java/lang/String", "<init>", "([BB)V"⟩ : MethodName)) rfl hown (w137 hw) (w50 hw) (w8 hw) (w51 hw) (desc_ne (by decide)) (rm := { frames := 1, cells := 0, slots := 0, locals := 13 }) (b := b1) (argsL := [(.ref r3), (.int (0 : Int32))]) (rest := [(.ref b1)]) (rmB l Z a0 hw _ b1 r3 n0 ec5 fc7 fc6 Gb1 O3) 1 (by decide) (by decide) (by decide) (by decide) rfl (by rw [hml]; rfl) pd_2 rfl rfl (Nat.le_of_eq rfl) (hb hby d22_20) ?_
  intro v8 T8 L8 X8 hQ8
  obtain ⟨rfl, Nq8, Kq8, Fv8, Fc8⟩ := hQ8
  have N8 := Fr.app (Fr.nil n0) Nq8
  have vc9 := vc4.keep Kq8 (fun q => ne_t1_b1 (List.mem_singleton.mp q))
  have ec10 := ec5.keep Kq8
  have vc11 := Vr3.keep Kq8 (fun q => ne_b1_r3.symm (List.mem_singleton.mp q))
  have O8 := O3.keep Kq8 (allS Gb1 all0)
  have K8 := K3.trans Kq8 (by intro x hx'; cases List.mem_singleton.mp hx'; exact Or.inr Jb1)
  show Gl p e below _ (T8.setTop (mkF m 23 #[.val (.ref t1), .val (.int (10 : Int32)), .val (.int (2 : Int32))] [(.ref b1)]))
  exact Gl.retR X8 hx hlk hret rfl rfl (hb hby d22_23) rfl (⟨_, _, _, rfl, ⟨ec10, Fv8, Fc8, vc11, (fun c hc => hr c (by simp at hc ⊢; grind)), Nat.le_of_ble_eq_true rfl⟩, K8, N8⟩) (by decide) (by decide)
theorem rmS3 (l : Launch) (Z : State) (a0 : Array Value) (hw : ∀ d ∈ tables_1, d.before a0 Z = true) (h0 : Heap) (x1 t1 : Addr) (kb1 : ClassId) (c0 c1 c2 c3 c4 c5 c6 c7 c8 c9 c10 c11 : Int32) (cz : Int32) (fm : Value) (n0 : Nat) (SN : Strg Z h0 x1 t1 kb1 [c0, c1, c2, c3, c4, c5, c6, c7, c8, c9, c10, c11]) (hfb : Z.vm.findClass "[B" = some kb1) (SC : Sta Z Z.heap "java/lang/String" "COMPACT_STRINGS" "Z" (.int cz)) (hcz : ¬ cz = 0) (SF : Sta Z Z.heap "jdk/internal/util/Preconditions" "SIOOBE_FORMATTER" "Ljava/util/function/BiFunction;" fm) (rf : fm.isRef = true) (O0 : Old Z n0 h0) : Con l Z (⟨"java/lang/String", "substring", "(II)Ljava/lang/String;"⟩ : MethodName) jdk_42_method_92_code 5 (some (.object "java/lang/String")) [] ({ frames := 5, cells := 2, slots := 16, locals := 113 } : Room) 2 16 #[(.ref x1), (.int (10 : Int32)), (.int (12 : Int32))] h0 (fun v h L => ∃ r t kb, v = some (.ref r) ∧ Strg Z h r t kb [c10, c11] ∧ Keep h0 h [] ∧ Fr n0 L) := by
  refine Con.intro (plainFor_of_name pn_2) ?_
  intro p e s m below meth c s₁ X0 hx hby hml hZ hown hnm hret hlk e0 hs0
  refine Gl.of (fun _ kq_ => castTop (ef_12 m x1 (10 : Int32) (12 : Int32)) kq_) ?_
  have K0 := Keep.refl h0 []
  show Gl p e below _ (s₁.setTop (mkF m 0 #[.val (.ref x1), .val (.int (10 : Int32)), .val (.int (12 : Int32)), .unset, .unset] []))
  refine Gl.of (fun _ kq_ => XS.aloadN X0.here hx rfl (hb hby d18_0) rfl rfl kq_) ?_
  refine Gl.callVB X0 hx hZ (y := (⟨"java/lang/String", "length", "()I"⟩ : MethodName)) (z := (⟨"java/lang/String", "length", "()I"⟩ : MethodName)) hown (w96 hw) (w79 hw) (notFace_of_selects (args := #[]) (mvT hZ (w81 hw))) (w81 hw) (w80 hw) (desc_ne (by decide)) (W := 0) (fun v => v = some (.int (12 : Int32))) (b := x1) (argsL := []) (rest := []) SN.1 (StrChars.Road.lenW (W := 0) hZ (own_wln hw) (kI := 4) (w7 hw) SN.1 SN.2.1 SN.2.2.1 SN.2.2.2.1 SN.cod SN.up (SC.ext O0.2) hcz SN.2.2.2.2.2 (by decide) (by decide)) (by decide) (by decide) e0 (by rw [hml]; rfl) pd_5 rfl rfl (Nat.le_of_eq rfl) (hb hby d18_1) ?_
  intro v1 T1 X1 e1 hv1
  subst hv1
  show Gl p e below _ (T1.setTop (mkF m 4 #[.val (.ref x1), .val (.int (10 : Int32)), .val (.int (12 : Int32)), .unset, .unset] [(.int (12 : Int32))]))
  refine Gl.of (fun _ kq_ => XS.istoreN X1.here hx rfl (hb hby d18_4) rfl (l' := #[.val (.ref x1), .val (.int (10 : Int32)), .val (.int (12 : Int32)), .val (.int (12 : Int32)), .unset]) rfl kq_) ?_
  refine Gl.of (fun _ kq_ => XS.iloadN X1.here hx rfl (hb hby d18_5) rfl kq_) ?_
  refine Gl.of (fun _ kq_ => XS.iloadN X1.here hx rfl (hb hby d18_6) rfl kq_) ?_
  refine Gl.of (fun _ kq_ => XS.iloadN X1.here hx rfl (hb hby d18_7) rfl kq_) ?_
  refine Gl.callS0 X1 hx hZ (y := (⟨"java/lang/String", "checkBoundsBeginEnd", "(III)V"⟩ : MethodName)) hown (w102 hw) (w103 hw) (w8 hw) (w104 hw) (desc_ne (by decide)) (argsL := [(.int (10 : Int32)), (.int (12 : Int32)), (.int (12 : Int32))]) (rest := []) (rmG l Z a0 hw _ (10 : Int32) (12 : Int32) (12 : Int32) fm n0 SF rf (by decide) (by decide) (by decide) O0) 0 (by decide) (by decide) e1 (by rw [hml]; rfl) pd_6 rfl rfl (Nat.le_of_eq rfl) (hb hby d18_8) (by decide) (by decide) ?_
  intro v2 T2 X2 e2 hv2
  subst hv2
  show Gl p e below _ (T2.setTop (mkF m 11 #[.val (.ref x1), .val (.int (10 : Int32)), .val (.int (12 : Int32)), .val (.int (12 : Int32)), .unset] []))
  refine Gl.of (fun _ kq_ => XS.iloadN X2.here hx rfl (hb hby d18_11) rfl kq_) ?_
  refine Gl.of (fun _ kq_ => XS.ifYes X2.here hx rfl (pc0 := 12) (pc' := 22) rfl (hb hby d18_12) rfl ((if0 _ _).trans (feq (by decide : ¬ ((10 : Int32) = (0 : Int32)))).2) (by decide) (by decide) kq_) ?_
  refine Gl.of (fun _ kq_ => XS.iloadN X2.here hx rfl (hb hby d18_22) rfl kq_) ?_
  refine Gl.of (fun _ kq_ => XS.iloadN X2.here hx rfl (hb hby d18_23) rfl kq_) ?_
  refine Gl.of (fun _ kq_ => XS.isub X2.here hx rfl (hb hby d18_24) rfl kq_) ?_
  show Gl p e below _ (T2.setTop (mkF m 25 #[.val (.ref x1), .val (.int (10 : Int32)), .val (.int (12 : Int32)), .val (.int (12 : Int32)), .unset] [(.int (2 : Int32))]))
  refine Gl.of (fun _ kq_ => XS.istore X2.here hx rfl (hb hby d18_25) rfl (l' := #[.val (.ref x1), .val (.int (10 : Int32)), .val (.int (12 : Int32)), .val (.int (12 : Int32)), .val (.int (2 : Int32))]) rfl kq_) ?_
  refine Gl.of (fun _ kq_ => XS.aloadN X2.here hx rfl (hb hby d18_27) rfl rfl kq_) ?_
  refine Gl.callV0 X2 hx hZ (y := (⟨"java/lang/String", "isLatin1", "()Z"⟩ : MethodName)) (z := (⟨"java/lang/String", "isLatin1", "()Z"⟩ : MethodName)) hown (w110 hw) (w111 hw) (notFace_of_selects (args := #[]) (mvT hZ (w113 hw))) (w113 hw) (w112 hw) (w114 hw) (w8 hw) (desc_ne (by decide)) (b := x1) (argsL := []) (rest := []) SN.1 (rmL l Z a0 hw _ x1 cz n0 SN.2.2.1 SC hcz O0) 0 (by decide) (by decide) e2 (by rw [hml]; rfl) pd_7 rfl rfl (Nat.le_of_eq rfl) (hb hby d18_28) (by decide) (by decide) ?_
  intro v3 T3 X3 e3 hv3
  subst hv3
  show Gl p e below _ (T3.setTop (mkF m 31 #[.val (.ref x1), .val (.int (10 : Int32)), .val (.int (12 : Int32)), .val (.int (12 : Int32)), .val (.int (2 : Int32))] [(.int (1 : Int32))]))
  refine Gl.of (fun _ kq_ => XS.ifNo X3.here hx rfl (hb hby d18_31) rfl ((if0 _ _).trans (feq (by decide : ¬ ((1 : Int32) = (0 : Int32)))).1) kq_) ?_
  refine Gl.of (fun _ kq_ => XS.aloadN X3.here hx rfl (hb hby d18_34) rfl rfl kq_) ?_
  obtain ⟨T4, X4, e4, st4⟩ := getF X3 hx hZ hown (host := "") (Or.inl (w33 hw)) Via.refl e3 SN.2.1 (g := (mkF m 35 #[.val (.ref x1), .val (.int (10 : Int32)), .val (.int (12 : Int32)), .val (.int (12 : Int32)), .val (.int (2 : Int32))] [(.ref x1)])) rfl rfl (hb hby d18_35)
  refine Gl.of st4 ?_
  show Gl p e below _ (T4.setTop (mkF m 38 #[.val (.ref x1), .val (.int (10 : Int32)), .val (.int (12 : Int32)), .val (.int (12 : Int32)), .val (.int (2 : Int32))] [(.ref t1)]))
  refine Gl.of (fun _ kq_ => XS.iloadN X4.here hx rfl (hb hby d18_38) rfl kq_) ?_
  refine Gl.of (fun _ kq_ => XS.iload X4.here hx rfl (hb hby d18_39) rfl kq_) ?_
  refine Gl.callS X4 hx hZ (y := (⟨"java/lang/StringLatin1", "newString", "([BII)Ljava/lang/String;"⟩ : MethodName)) hown (w115 hw) (w116 hw) (w43 hw) (w117 hw) (desc_ne (by decide)) (rm := { frames := 4, cells := 2, slots := 16, locals := 98 }) (argsL := [(.ref t1), (.int (10 : Int32)), (.int (2 : Int32))]) (rest := []) (rmN3 l Z a0 hw _ t1 kb1 c0 c1 c2 c3 c4 c5 c6 c7 c8 c9 c10 c11 n0 SN.2.2.2.1 hfb SN.2.2.2.2.1 O0) 0 (by decide) (by decide) (by decide) (by decide) e4 (by rw [hml]; rfl) pd_8 rfl rfl (Nat.le_of_eq rfl) (hb hby d18_41) ?_
  intro v5 T5 L5 X5 hQ5
  obtain ⟨r5, t5, kb5, rfl, SG5, Kq5, Nq5⟩ := hQ5
  have N5 := Fr.app (Fr.nil n0) Nq5
  have gc6 := SN.keep Kq5 (by simp) (by simp)
  have ec7 := SN.1.keep Kq5
  have fc8 := SN.2.1.keep Kq5 (by simp)
  have fc9 := SN.2.2.1.keep Kq5 (by simp)
  have O5 := O0.keep Kq5 all0
  have K5 := K0.trans Kq5 (by intro x hx'; exact nomatch hx')
  show Gl p e below _ (T5.setTop (mkF m 44 #[.val (.ref x1), .val (.int (10 : Int32)), .val (.int (12 : Int32)), .val (.int (12 : Int32)), .val (.int (2 : Int32))] [(.ref r5)]))
  refine Gl.of (fun _ kq_ => XS.goto X5.here hx rfl (pc0 := 44) (pc' := 57) rfl (hb hby d18_44) (by decide) (by decide) kq_) ?_
  exact Gl.retR X5 hx hlk hret rfl rfl (hb hby d18_57) rfl (⟨_, _, _, rfl, SG5, K5, N5⟩) (by decide) (by decide)
theorem rmU3 (l : Launch) (Z : State) (a0 : Array Value) (hw : ∀ d ∈ tables_1, d.before a0 Z = true) (h0 : Heap) (x1 t1 : Addr) (kb1 : ClassId) (c0 c1 c2 c3 c4 c5 c6 c7 c8 c9 c10 c11 : Int32) (cz : Int32) (fm : Value) (n0 : Nat) (SN : Strg Z h0 x1 t1 kb1 [c0, c1, c2, c3, c4, c5, c6, c7, c8, c9, c10, c11]) (hfb : Z.vm.findClass "[B" = some kb1) (SC : Sta Z Z.heap "java/lang/String" "COMPACT_STRINGS" "Z" (.int cz)) (hcz : ¬ cz = 0) (SF : Sta Z Z.heap "jdk/internal/util/Preconditions" "SIOOBE_FORMATTER" "Ljava/util/function/BiFunction;" fm) (rf : fm.isRef = true) (O0 : Old Z n0 h0) : Con l Z (⟨"java/lang/String", "substring", "(I)Ljava/lang/String;"⟩ : MethodName) jdk_42_method_91_code 2 (some (.object "java/lang/String")) [] ({ frames := 6, cells := 2, slots := 16, locals := 131 } : Room) 2 16 #[(.ref x1), (.int (10 : Int32))] h0 (fun v h L => ∃ r t kb, v = some (.ref r) ∧ Strg Z h r t kb [c10, c11] ∧ Keep h0 h [] ∧ Fr n0 L) := by
  refine Con.intro (plainFor_of_name pn_2) ?_
  intro p e s m below meth c s₁ X0 hx hby hml hZ hown hnm hret hlk e0 hs0
  refine Gl.of (fun _ kq_ => castTop (ef_13 m x1 (10 : Int32)) kq_) ?_
  have K0 := Keep.refl h0 []
  show Gl p e below _ (s₁.setTop (mkF m 0 #[.val (.ref x1), .val (.int (10 : Int32))] []))
  refine Gl.of (fun _ kq_ => XS.aloadN X0.here hx rfl (hb hby d17_0) rfl rfl kq_) ?_
  refine Gl.of (fun _ kq_ => XS.iloadN X0.here hx rfl (hb hby d17_1) rfl kq_) ?_
  refine Gl.of (fun _ kq_ => XS.aloadN X0.here hx rfl (hb hby d17_2) rfl rfl kq_) ?_
  refine Gl.callVB X0 hx hZ (y := (⟨"java/lang/String", "length", "()I"⟩ : MethodName)) (z := (⟨"java/lang/String", "length", "()I"⟩ : MethodName)) hown (w96 hw) (w79 hw) (notFace_of_selects (args := #[]) (mvT hZ (w81 hw))) (w81 hw) (w80 hw) (desc_ne (by decide)) (W := 2) (fun v => v = some (.int (12 : Int32))) (b := x1) (argsL := []) (rest := [(.int (10 : Int32)), (.ref x1)]) SN.1 (StrChars.Road.lenW (W := 2) hZ (own_wln hw) (kI := 4) (w7 hw) SN.1 SN.2.1 SN.2.2.1 SN.2.2.2.1 SN.cod SN.up (SC.ext O0.2) hcz SN.2.2.2.2.2 (by decide) (by decide)) (by decide) (by decide) e0 (by rw [hml]; rfl) pd_5 rfl rfl (Nat.le_of_eq rfl) (hb hby d17_3) ?_
  intro v1 T1 X1 e1 hv1
  subst hv1
  show Gl p e below _ (T1.setTop (mkF m 6 #[.val (.ref x1), .val (.int (10 : Int32))] [(.int (12 : Int32)), (.int (10 : Int32)), (.ref x1)]))
  refine Gl.callV X1 hx hZ (y := (⟨"java/lang/String", "substring", "(II)Ljava/lang/String;"⟩ : MethodName)) (z := (⟨"java/lang/String", "substring", "(II)Ljava/lang/String;"⟩ : MethodName)) hown (w97 hw) (w98 hw) (notFace_of_selects (args := #[]) (mvT hZ (w100 hw))) (w100 hw) (w99 hw) (w101 hw) (w8 hw) (desc_ne (by decide)) (rm := { frames := 5, cells := 2, slots := 16, locals := 113 }) (b := x1) (argsL := [(.int (10 : Int32)), (.int (12 : Int32))]) (rest := []) SN.1 (rmS3 l Z a0 hw _ x1 t1 kb1 c0 c1 c2 c3 c4 c5 c6 c7 c8 c9 c10 c11 cz fm n0 SN hfb SC hcz SF rf O0) 0 (by decide) (by decide) (by decide) (by decide) e1 (by rw [hml]; rfl) pd_9 rfl rfl (Nat.le_of_eq rfl) (hb hby d17_6) ?_
  intro v2 T2 L2 X2 hQ2
  obtain ⟨r2, t2, kb2, rfl, SG2, Kq2, Nq2⟩ := hQ2
  have N2 := Fr.app (Fr.nil n0) Nq2
  have gc3 := SN.keep Kq2 (by simp) (by simp)
  have ec4 := SN.1.keep Kq2
  have fc5 := SN.2.1.keep Kq2 (by simp)
  have fc6 := SN.2.2.1.keep Kq2 (by simp)
  have O2 := O0.keep Kq2 all0
  have K2 := K0.trans Kq2 (by intro x hx'; exact nomatch hx')
  show Gl p e below _ (T2.setTop (mkF m 9 #[.val (.ref x1), .val (.int (10 : Int32))] [(.ref r2)]))
  exact Gl.retR X2 hx hlk hret rfl rfl (hb hby d17_9) rfl (⟨_, _, _, rfl, SG2, K2, N2⟩) (by decide) (by decide)
theorem rmC3 (l : Launch) (Z : State) (a0 : Array Value) (hw : ∀ d ∈ tables_1, d.before a0 Z = true) (h0 : Heap) (a1 : Addr) (x1 t1 : Addr) (kb1 : ClassId) (c0 c1 c2 c3 c4 c5 c6 c7 c8 c9 c10 c11 : Int32) (cz : Int32) (fm : Value) (n0 : Nat) (Fq : Fld Z h0 a1 "com/example/rulr/rulr/policy/SqlCondition$Membership" "query" "Ljava/lang/String;" (.ref x1)) (Fs : Fld Z h0 a1 "com/example/rulr/rulr/policy/SqlCondition$Membership" "selected" "I" (.int (3 : Int32))) (SN : Strg Z h0 x1 t1 kb1 [c0, c1, c2, c3, c4, c5, c6, c7, c8, c9, c10, c11]) (hfb : Z.vm.findClass "[B" = some kb1) (SC : Sta Z Z.heap "java/lang/String" "COMPACT_STRINGS" "Z" (.int cz)) (hcz : ¬ cz = 0) (SF : Sta Z Z.heap "jdk/internal/util/Preconditions" "SIOOBE_FORMATTER" "Ljava/util/function/BiFunction;" fm) (rf : fm.isRef = true) (O0 : Old Z n0 h0) : ConH l Z own_EL (⟨"com/example/rulr/rulr/policy/SqlCondition$Membership", "condition", "()Ljava/lang/String;"⟩ : MethodName) prog_56_method_5_code 1 (some (.object "java/lang/String")) [] ({ frames := 7, cells := 4, slots := 48, locals := 145 } : Room) 4 48 #[(.ref a1)] h0 (fun v h L => ∃ r t kb, v = some (.ref r) ∧ Strg Z h r t kb [c10, c11] ∧ Keep h0 h [] ∧ Fr n0 L) := by
  refine ConH.intro (plainFor_of_name pn_4) ?_
  intro p e s m below meth c s₁ X0 hx hby hml hZ hown hnm hret hlk e0 hs0 hR0
  refine Gl.of (fun _ kq_ => castTop (ef_14 m a1) kq_) ?_
  have hS0 := (State.WarmedH.refl s).since 0
  have hk0 : 0 ≤ h0.size := Nat.zero_le _
  have K0 := Keep.refl h0 []
  show Gl p e below _ (s₁.setTop (mkF m 0 #[.val (.ref a1)] []))
  refine Gl.of (fun _ kq_ => XS.aloadN X0.here hx rfl (hb hby d14_0) rfl rfl kq_) ?_
  obtain ⟨T1, X1, e1, st1⟩ := getF X0 hx hZ hown (host := "") (Or.inl (w67 hw)) Via.refl e0 Fs (g := (mkF m 1 #[.val (.ref a1)] [(.ref a1)])) rfl rfl (hb hby d14_1)
  refine Gl.of st1 ?_
  show Gl p e below _ (T1.setTop (mkF m 4 #[.val (.ref a1)] [(.int (3 : Int32))]))
  refine Gl.of (fun _ kq_ => XS.aloadN X1.here hx rfl (hb hby d14_4) rfl rfl kq_) ?_
  obtain ⟨T2, X2, e2, st2⟩ := getF X1 hx hZ hown (host := "") (Or.inl (w63 hw)) Via.refl e1 Fq (g := (mkF m 5 #[.val (.ref a1)] [(.ref a1), (.int (3 : Int32))])) rfl rfl (hb hby d14_5)
  refine Gl.of st2 ?_
  show Gl p e below _ (T2.setTop (mkF m 8 #[.val (.ref a1)] [(.ref x1), (.int (3 : Int32))]))
  refine Gl.callVB X2 hx hZ (y := (⟨"java/lang/String", "length", "()I"⟩ : MethodName)) (z := (⟨"java/lang/String", "length", "()I"⟩ : MethodName)) hown (w78 hw) (w79 hw) (notFace_of_selects (args := #[]) (mvT hZ (w81 hw))) (w81 hw) (w80 hw) (desc_ne (by decide)) (W := 1) (fun v => v = some (.int (12 : Int32))) (b := x1) (argsL := []) (rest := [(.int (3 : Int32))]) SN.1 (StrChars.Road.lenW (W := 1) hZ (own_wln hw) (kI := 4) (w7 hw) SN.1 SN.2.1 SN.2.2.1 SN.2.2.2.1 SN.cod SN.up (SC.ext O0.2) hcz SN.2.2.2.2.2 (by decide) (by decide)) (by decide) (by decide) e2 (by rw [hml]; rfl) pd_5 rfl rfl (Nat.le_of_eq rfl) (hb hby d14_8) ?_
  intro v3 T3 X3 e3 hv3
  subst hv3
  show Gl p e below _ (T3.setTop (mkF m 11 #[.val (.ref a1)] [(.int (12 : Int32)), (.int (3 : Int32))]))
  refine Gl.of (fun _ kq_ => XS.icmpYes X3.here hx rfl (pc0 := 11) (pc' := 18) rfl (hb hby d14_11) rfl (feq (by decide : ¬ ((3 : Int32) = (12 : Int32)))).2 (by decide) (by decide) kq_) ?_
  refine Gl.of (fun _ kq_ => XS.aloadN X3.here hx rfl (hb hby d14_18) rfl rfl kq_) ?_
  obtain ⟨T4, X4, e4, st4⟩ := getF X3 hx hZ hown (host := "") (Or.inl (w63 hw)) Via.refl e3 Fq (g := (mkF m 19 #[.val (.ref a1)] [(.ref a1)])) rfl rfl (hb hby d14_19)
  refine Gl.of st4 ?_
  show Gl p e below _ (T4.setTop (mkF m 22 #[.val (.ref a1)] [(.ref x1)]))
  refine Gl.of (fun _ kq_ => XS.aloadN X4.here hx rfl (hb hby d14_22) rfl rfl kq_) ?_
  obtain ⟨T5, X5, e5, st5⟩ := getF X4 hx hZ hown (host := "") (Or.inl (w67 hw)) Via.refl e4 Fs (g := (mkF m 23 #[.val (.ref a1)] [(.ref a1), (.ref x1)])) rfl rfl (hb hby d14_23)
  refine Gl.of st5 ?_
  show Gl p e below _ (T5.setTop (mkF m 26 #[.val (.ref a1)] [(.int (3 : Int32)), (.ref x1)]))
  obtain ⟨b6, T6, h6, k6, t6, kb6, X6, e6, E6, hS6, hk6, hZ, hown, Ea6, Ca6, Va6, Ba6, -, -, rr6, Li6, sf6, st6⟩ := ldcCH X5 hx hZ hown (w88 hw) (own_str hw) e5 hS0 hk0 (own_el hw) (by decide) hR0.1 (vs := (own_wh.map (fun c => c.toInt8.toInt32)).map Value.int) (z := Int32.ofNat own_wh.length) ⟨by decide, rfl⟩ (by decide) (by decide) (g := (mkF m 26 #[.val (.ref a1)] [(.int (3 : Int32)), (.ref x1)])) rfl (hb hby d14_26) (n := 28) (by decide) (by decide) (by decide) (by decide)
  refine Gl.of st6 ?_
  have hR6 := hR0.trans rr6
  have SG6 : Strg Z h6 b6 t6 kb6 own_wh := ⟨Ea6, Va6, Ca6, Ba6, by decide, by decide⟩
  have fc7 := Fq.ext E6
  have fc8 := Fs.ext E6
  have gc9 := SN.ext E6
  have ec10 := SN.1.ext E6
  have O6 := O0.ext E6
  have K6 := K0.ext E6
  show Gl p e below _ (T6.setTop (mkF m 28 #[.val (.ref a1)] [(.ref b6), (.int (3 : Int32)), (.ref x1)]))
  refine Gl.callVB X6 hx hZ (y := (⟨"java/lang/String", "length", "()I"⟩ : MethodName)) (z := (⟨"java/lang/String", "length", "()I"⟩ : MethodName)) hown (w78 hw) (w79 hw) (notFace_of_selects (args := #[]) (mvT hZ (w81 hw))) (w81 hw) (w80 hw) (desc_ne (by decide)) (W := 2) (fun v => v = some (.int (7 : Int32))) (b := b6) (argsL := []) (rest := [(.int (3 : Int32)), (.ref x1)]) SG6.1 (StrChars.Road.lenW (W := 2) hZ (own_wln hw) (kI := 4) (w7 hw) SG6.1 SG6.2.1 SG6.2.2.1 SG6.2.2.2.1 SG6.cod SG6.up (SC.ext O6.2) hcz SG6.2.2.2.2.2 (by decide) (by decide)) (by decide) (by decide) e6 (by rw [hml]; rfl) pd_5 rfl rfl (Nat.le_of_eq rfl) (hb hby d14_28) ?_
  intro v11 T11 X11 e11 hv11
  subst hv11
  show Gl p e below _ (T11.setTop (mkF m 31 #[.val (.ref a1)] [(.int (7 : Int32)), (.int (3 : Int32)), (.ref x1)]))
  refine Gl.of (fun _ kq_ => XS.iadd X11.here hx rfl (hb hby d14_31) rfl kq_) ?_
  show Gl p e below _ (T11.setTop (mkF m 32 #[.val (.ref a1)] [(.int (10 : Int32)), (.ref x1)]))
  refine Gl.callV X11 hx hZ (y := (⟨"java/lang/String", "substring", "(I)Ljava/lang/String;"⟩ : MethodName)) (z := (⟨"java/lang/String", "substring", "(I)Ljava/lang/String;"⟩ : MethodName)) hown (w91 hw) (w92 hw) (notFace_of_selects (args := #[]) (mvT hZ (w94 hw))) (w94 hw) (w93 hw) (w95 hw) (w8 hw) (desc_ne (by decide)) (rm := { frames := 6, cells := 2, slots := 16, locals := 131 }) (b := x1) (argsL := [(.int (10 : Int32))]) (rest := []) ec10 (rmU3 l Z a0 hw _ x1 t1 kb1 c0 c1 c2 c3 c4 c5 c6 c7 c8 c9 c10 c11 cz fm n0 gc9 hfb SC hcz SF rf O6) 0 (by decide) (by decide) (by decide) (by decide) e11 (by rw [hml]; rfl) pd_10 rfl rfl (Nat.le_of_eq rfl) (hb hby d14_32) ?_
  intro v12 T12 L12 X12 hQ12
  obtain ⟨r12, t12, kb12, rfl, SG12, Kq12, Nq12⟩ := hQ12
  have N12 := Fr.app (Fr.nil n0) Nq12
  have fc13 := fc7.keep Kq12 (by simp)
  have fc14 := fc8.keep Kq12 (by simp)
  have gc15 := gc9.keep Kq12 (by simp) (by simp)
  have ec16 := ec10.keep Kq12
  have gc17 := SG6.keep Kq12 (by simp) (by simp)
  have O12 := O6.keep Kq12 all0
  have K12 := K6.trans Kq12 (by intro x hx'; exact nomatch hx')
  have hk12 := Nat.le_trans hk6 Kq12.1
  have hRs := hR6.trans (CHr.keep Kq12 (fun x hx => nomatch hx) hR6.1)
  show Gl p e below _ (T12.setTop (mkF m 35 #[.val (.ref a1)] [(.ref r12)]))
  exact Gl.retRH X12 hx hlk hret rfl rfl (hb hby d14_35) rfl (⟨_, _, _, rfl, SG12, K12, N12⟩) hS6 hk12 hZ (own_el hw) hRs (by decide) (by decide)
theorem rmA30 (l : Launch) (Z : State) (a0 : Array Value) (hw : ∀ d ∈ tables_1, d.before a0 Z = true) (h0 : Heap) (x1 t1 a2 : Addr) (kb1 kq : ClassId) (c0 c1 c2 c3 c4 c5 c6 c7 c8 c9 c10 c11 : Int32) (cz : Int32) (fm : Value) (n0 : Nat) (SN : Strg Z h0 x1 t1 kb1 [c10, c11]) (VQ : Arv Z h0 a2 kq .char (12 : Int32) [.int c0, .int c1, .int c2, .int c3, .int c4, .int c5, .int c6, .int c7, .int c8, .int c9, .int c10, .int c11] (.int 0)) (SC : Sta Z Z.heap "java/lang/String" "COMPACT_STRINGS" "Z" (.int cz)) (hcz : ¬ cz = 0) (SF : Sta Z Z.heap "jdk/internal/util/Preconditions" "SIOOBE_FORMATTER" "Ljava/util/function/BiFunction;" fm) (rf : fm.isRef = true) (O0 : Old Z n0 h0) : Con l Z (⟨"com/example/rulr/rulr/policy/MembershipConditionPinLaw", "at", "(Ljava/lang/String;[CII)Z"⟩ : MethodName) method_3_code 4 (some .boolean) [] ({ frames := 4, cells := 0, slots := 0, locals := 60 } : Room) 0 0 #[(.ref x1), (.ref a2), (.int (0 : Int32)), (.int (3 : Int32))] h0 (Pur (fun v => v = some (.int 1)) h0) := by
  refine Con.intro (plainFor_of_name pn_0) ?_
  intro p e s m below meth c s₁ X0 hx hby hml hZ hown hnm hret hlk e0 hs0
  refine Gl.of (fun _ kq_ => castTop (ef_15 m x1 a2 (0 : Int32) (3 : Int32)) kq_) ?_
  show Gl p e below _ (s₁.setTop (mkF m 0 #[.val (.ref x1), .val (.ref a2), .val (.int (0 : Int32)), .val (.int (3 : Int32))] []))
  refine Gl.of (fun _ kq_ => XS.iloadN X0.here hx rfl (hb hby d27_0) rfl kq_) ?_
  refine Gl.of (fun _ kq_ => XS.aloadN X0.here hx rfl (hb hby d27_1) rfl rfl kq_) ?_
  refine Gl.callVB X0 hx hZ (y := (⟨"java/lang/String", "length", "()I"⟩ : MethodName)) (z := (⟨"java/lang/String", "length", "()I"⟩ : MethodName)) hown (w138 hw) (w79 hw) (notFace_of_selects (args := #[]) (mvT hZ (w81 hw))) (w81 hw) (w80 hw) (desc_ne (by decide)) (W := 1) (fun v => v = some (.int (2 : Int32))) (b := x1) (argsL := []) (rest := [(.int (0 : Int32))]) SN.1 (StrChars.Road.lenW (W := 1) hZ (own_wln hw) (kI := 4) (w7 hw) SN.1 SN.2.1 SN.2.2.1 SN.2.2.2.1 SN.cod SN.up (SC.ext O0.2) hcz SN.2.2.2.2.2 (by decide) (by decide)) (by decide) (by decide) e0 (by rw [hml]; rfl) pd_5 rfl rfl (Nat.le_of_eq rfl) (hb hby d27_2) ?_
  intro v1 T1 X1 e1 hv1
  subst hv1
  show Gl p e below _ (T1.setTop (mkF m 5 #[.val (.ref x1), .val (.ref a2), .val (.int (0 : Int32)), .val (.int (3 : Int32))] [(.int (2 : Int32)), (.int (0 : Int32))]))
  refine Gl.of (fun _ kq_ => XS.icmpNo X1.here hx rfl (hb hby d27_5) rfl (tlt (by decide : (0 : Int32) < (2 : Int32))).2.1 kq_) ?_
  refine Gl.of (fun _ kq_ => XS.aloadN X1.here hx rfl (hb hby d27_8) rfl rfl kq_) ?_
  refine Gl.of (fun _ kq_ => XS.iloadN X1.here hx rfl (hb hby d27_9) rfl kq_) ?_
  refine Gl.callVB X1 hx hZ (y := (⟨"java/lang/String", "charAt", "(I)C"⟩ : MethodName)) (z := (⟨"java/lang/String", "charAt", "(I)C"⟩ : MethodName)) hown (w142 hw) (w143 hw) (notFace_of_selects (args := #[]) (mvT hZ (w145 hw))) (w145 hw) (w144 hw) (desc_ne (by decide)) (W := 0) (fun v => v = some (.int c10)) (b := x1) (argsL := [(.int (0 : Int32))]) (rest := []) SN.1 (StrChars.Road.chN (W := 0) hZ (own_wch hw) (kI := 4) (w7 hw) SN.1 SN.2.1 SN.2.2.1 SN.2.2.2.1 SN.cod SN.up (SC.ext O0.2) hcz (SF.ext O0.2) rf SN.2.2.2.2.2 (i := 0) (Nat.le_of_ble_eq_true rfl) (j := (0 : Int32)) rfl (by decide) (by decide)) (by decide) (by decide) e1 (by rw [hml]; rfl) pd_11 rfl rfl (Nat.le_of_eq rfl) (hb hby d27_10) ?_
  intro v2 T2 X2 e2 hv2
  subst hv2
  show Gl p e below _ (T2.setTop (mkF m 13 #[.val (.ref x1), .val (.ref a2), .val (.int (0 : Int32)), .val (.int (3 : Int32))] [(.int c10)]))
  refine Gl.of (fun _ kq_ => XS.aloadN X2.here hx rfl (hb hby d27_13) rfl rfl kq_) ?_
  refine Gl.of (fun _ kq_ => XS.iloadN X2.here hx rfl (hb hby d27_14) rfl kq_) ?_
  refine Gl.of (fun _ kq_ => XS.bipush X2.here hx rfl (hb hby d27_15) kq_) ?_
  refine Gl.of (fun _ kq_ => XS.iadd X2.here hx rfl (hb hby d27_17) rfl kq_) ?_
  show Gl p e below _ (T2.setTop (mkF m 18 #[.val (.ref x1), .val (.ref a2), .val (.int (0 : Int32)), .val (.int (3 : Int32))] [(.int (10 : Int32)), (.ref a2), (.int c10)]))
  refine Gl.of (fun _ kq_ => XS.iloadN X2.here hx rfl (hb hby d27_18) rfl kq_) ?_
  refine Gl.of (fun _ kq_ => XS.iadd X2.here hx rfl (hb hby d27_19) rfl kq_) ?_
  show Gl p e below _ (T2.setTop (mkF m 20 #[.val (.ref x1), .val (.ref a2), .val (.int (0 : Int32)), .val (.int (3 : Int32))] [(.int (10 : Int32)), (.ref a2), (.int c10)]))
  obtain ⟨zcl3, zAr3, zq3, zS3, zM3, zH3, zG3⟩ := id VQ
  refine Gl.of (fun _ kq_ => X2.caload hx (j := (10 : Int32)) (v := (.int c10)) (by rw [e2]; exact (zAr3).1) (State.isArrayOf_alike hZ.alike (zAr3).2.1) (zAr3).2.2 (inb_of zS3 ⟨by decide, by decide⟩) (zH3 10 (by rw [zS3]; decide)) (g := (mkF m 20 #[.val (.ref x1), .val (.ref a2), .val (.int (0 : Int32)), .val (.int (3 : Int32))] [(.int (10 : Int32)), (.ref a2), (.int c10)])) rfl rfl (hb hby d27_20) _ kq_) ?_
  show Gl p e below _ (T2.setTop (mkF m 21 #[.val (.ref x1), .val (.ref a2), .val (.int (0 : Int32)), .val (.int (3 : Int32))] [(.int c10), (.int c10)]))
  refine Gl.of (fun _ kq_ => XS.icmpNo X2.here hx rfl (hb hby d27_21) rfl (teq (rfl : c10 = c10)).2 kq_) ?_
  refine Gl.of (fun _ kq_ => XS.iconst X2.here hx rfl (hb hby d27_24) kq_) ?_
  refine Gl.of (fun _ kq_ => XS.goto X2.here hx rfl (pc0 := 25) (pc' := 29) rfl (hb hby d27_25) (by decide) (by decide) kq_) ?_
  exact Gl.retN X2 hx hlk hret (by simp) (hb hby d27_29) e2 (⟨rfl, rfl, rfl⟩) (by decide) (by decide)
theorem rmA31 (l : Launch) (Z : State) (a0 : Array Value) (hw : ∀ d ∈ tables_1, d.before a0 Z = true) (h0 : Heap) (x1 t1 a2 : Addr) (kb1 kq : ClassId) (c0 c1 c2 c3 c4 c5 c6 c7 c8 c9 c10 c11 : Int32) (cz : Int32) (fm : Value) (n0 : Nat) (SN : Strg Z h0 x1 t1 kb1 [c10, c11]) (VQ : Arv Z h0 a2 kq .char (12 : Int32) [.int c0, .int c1, .int c2, .int c3, .int c4, .int c5, .int c6, .int c7, .int c8, .int c9, .int c10, .int c11] (.int 0)) (SC : Sta Z Z.heap "java/lang/String" "COMPACT_STRINGS" "Z" (.int cz)) (hcz : ¬ cz = 0) (SF : Sta Z Z.heap "jdk/internal/util/Preconditions" "SIOOBE_FORMATTER" "Ljava/util/function/BiFunction;" fm) (rf : fm.isRef = true) (O0 : Old Z n0 h0) : Con l Z (⟨"com/example/rulr/rulr/policy/MembershipConditionPinLaw", "at", "(Ljava/lang/String;[CII)Z"⟩ : MethodName) method_3_code 4 (some .boolean) [] ({ frames := 4, cells := 0, slots := 0, locals := 60 } : Room) 0 0 #[(.ref x1), (.ref a2), (.int (1 : Int32)), (.int (3 : Int32))] h0 (Pur (fun v => v = some (.int 1)) h0) := by
  refine Con.intro (plainFor_of_name pn_0) ?_
  intro p e s m below meth c s₁ X0 hx hby hml hZ hown hnm hret hlk e0 hs0
  refine Gl.of (fun _ kq_ => castTop (ef_15 m x1 a2 (1 : Int32) (3 : Int32)) kq_) ?_
  show Gl p e below _ (s₁.setTop (mkF m 0 #[.val (.ref x1), .val (.ref a2), .val (.int (1 : Int32)), .val (.int (3 : Int32))] []))
  refine Gl.of (fun _ kq_ => XS.iloadN X0.here hx rfl (hb hby d27_0) rfl kq_) ?_
  refine Gl.of (fun _ kq_ => XS.aloadN X0.here hx rfl (hb hby d27_1) rfl rfl kq_) ?_
  refine Gl.callVB X0 hx hZ (y := (⟨"java/lang/String", "length", "()I"⟩ : MethodName)) (z := (⟨"java/lang/String", "length", "()I"⟩ : MethodName)) hown (w138 hw) (w79 hw) (notFace_of_selects (args := #[]) (mvT hZ (w81 hw))) (w81 hw) (w80 hw) (desc_ne (by decide)) (W := 1) (fun v => v = some (.int (2 : Int32))) (b := x1) (argsL := []) (rest := [(.int (1 : Int32))]) SN.1 (StrChars.Road.lenW (W := 1) hZ (own_wln hw) (kI := 4) (w7 hw) SN.1 SN.2.1 SN.2.2.1 SN.2.2.2.1 SN.cod SN.up (SC.ext O0.2) hcz SN.2.2.2.2.2 (by decide) (by decide)) (by decide) (by decide) e0 (by rw [hml]; rfl) pd_5 rfl rfl (Nat.le_of_eq rfl) (hb hby d27_2) ?_
  intro v1 T1 X1 e1 hv1
  subst hv1
  show Gl p e below _ (T1.setTop (mkF m 5 #[.val (.ref x1), .val (.ref a2), .val (.int (1 : Int32)), .val (.int (3 : Int32))] [(.int (2 : Int32)), (.int (1 : Int32))]))
  refine Gl.of (fun _ kq_ => XS.icmpNo X1.here hx rfl (hb hby d27_5) rfl (tlt (by decide : (1 : Int32) < (2 : Int32))).2.1 kq_) ?_
  refine Gl.of (fun _ kq_ => XS.aloadN X1.here hx rfl (hb hby d27_8) rfl rfl kq_) ?_
  refine Gl.of (fun _ kq_ => XS.iloadN X1.here hx rfl (hb hby d27_9) rfl kq_) ?_
  refine Gl.callVB X1 hx hZ (y := (⟨"java/lang/String", "charAt", "(I)C"⟩ : MethodName)) (z := (⟨"java/lang/String", "charAt", "(I)C"⟩ : MethodName)) hown (w142 hw) (w143 hw) (notFace_of_selects (args := #[]) (mvT hZ (w145 hw))) (w145 hw) (w144 hw) (desc_ne (by decide)) (W := 0) (fun v => v = some (.int c11)) (b := x1) (argsL := [(.int (1 : Int32))]) (rest := []) SN.1 (StrChars.Road.chN (W := 0) hZ (own_wch hw) (kI := 4) (w7 hw) SN.1 SN.2.1 SN.2.2.1 SN.2.2.2.1 SN.cod SN.up (SC.ext O0.2) hcz (SF.ext O0.2) rf SN.2.2.2.2.2 (i := 1) (Nat.le_of_ble_eq_true rfl) (j := (1 : Int32)) rfl (by decide) (by decide)) (by decide) (by decide) e1 (by rw [hml]; rfl) pd_11 rfl rfl (Nat.le_of_eq rfl) (hb hby d27_10) ?_
  intro v2 T2 X2 e2 hv2
  subst hv2
  show Gl p e below _ (T2.setTop (mkF m 13 #[.val (.ref x1), .val (.ref a2), .val (.int (1 : Int32)), .val (.int (3 : Int32))] [(.int c11)]))
  refine Gl.of (fun _ kq_ => XS.aloadN X2.here hx rfl (hb hby d27_13) rfl rfl kq_) ?_
  refine Gl.of (fun _ kq_ => XS.iloadN X2.here hx rfl (hb hby d27_14) rfl kq_) ?_
  refine Gl.of (fun _ kq_ => XS.bipush X2.here hx rfl (hb hby d27_15) kq_) ?_
  refine Gl.of (fun _ kq_ => XS.iadd X2.here hx rfl (hb hby d27_17) rfl kq_) ?_
  show Gl p e below _ (T2.setTop (mkF m 18 #[.val (.ref x1), .val (.ref a2), .val (.int (1 : Int32)), .val (.int (3 : Int32))] [(.int (10 : Int32)), (.ref a2), (.int c11)]))
  refine Gl.of (fun _ kq_ => XS.iloadN X2.here hx rfl (hb hby d27_18) rfl kq_) ?_
  refine Gl.of (fun _ kq_ => XS.iadd X2.here hx rfl (hb hby d27_19) rfl kq_) ?_
  show Gl p e below _ (T2.setTop (mkF m 20 #[.val (.ref x1), .val (.ref a2), .val (.int (1 : Int32)), .val (.int (3 : Int32))] [(.int (11 : Int32)), (.ref a2), (.int c11)]))
  obtain ⟨zcl3, zAr3, zq3, zS3, zM3, zH3, zG3⟩ := id VQ
  refine Gl.of (fun _ kq_ => X2.caload hx (j := (11 : Int32)) (v := (.int c11)) (by rw [e2]; exact (zAr3).1) (State.isArrayOf_alike hZ.alike (zAr3).2.1) (zAr3).2.2 (inb_of zS3 ⟨by decide, by decide⟩) (zH3 11 (by rw [zS3]; decide)) (g := (mkF m 20 #[.val (.ref x1), .val (.ref a2), .val (.int (1 : Int32)), .val (.int (3 : Int32))] [(.int (11 : Int32)), (.ref a2), (.int c11)])) rfl rfl (hb hby d27_20) _ kq_) ?_
  show Gl p e below _ (T2.setTop (mkF m 21 #[.val (.ref x1), .val (.ref a2), .val (.int (1 : Int32)), .val (.int (3 : Int32))] [(.int c11), (.int c11)]))
  refine Gl.of (fun _ kq_ => XS.icmpNo X2.here hx rfl (hb hby d27_21) rfl (teq (rfl : c11 = c11)).2 kq_) ?_
  refine Gl.of (fun _ kq_ => XS.iconst X2.here hx rfl (hb hby d27_24) kq_) ?_
  refine Gl.of (fun _ kq_ => XS.goto X2.here hx rfl (pc0 := 25) (pc' := 29) rfl (hb hby d27_25) (by decide) (by decide) kq_) ?_
  exact Gl.retN X2 hx hlk hret (by simp) (hb hby d27_29) e2 (⟨rfl, rfl, rfl⟩) (by decide) (by decide)
theorem rmA32 (l : Launch) (Z : State) (a0 : Array Value) (hw : ∀ d ∈ tables_1, d.before a0 Z = true) (h0 : Heap) (x1 t1 a2 : Addr) (kb1 kq : ClassId) (c0 c1 c2 c3 c4 c5 c6 c7 c8 c9 c10 c11 : Int32) (cz : Int32) (fm : Value) (n0 : Nat) (SN : Strg Z h0 x1 t1 kb1 [c10, c11]) (VQ : Arv Z h0 a2 kq .char (12 : Int32) [.int c0, .int c1, .int c2, .int c3, .int c4, .int c5, .int c6, .int c7, .int c8, .int c9, .int c10, .int c11] (.int 0)) (SC : Sta Z Z.heap "java/lang/String" "COMPACT_STRINGS" "Z" (.int cz)) (hcz : ¬ cz = 0) (SF : Sta Z Z.heap "jdk/internal/util/Preconditions" "SIOOBE_FORMATTER" "Ljava/util/function/BiFunction;" fm) (rf : fm.isRef = true) (O0 : Old Z n0 h0) : Con l Z (⟨"com/example/rulr/rulr/policy/MembershipConditionPinLaw", "at", "(Ljava/lang/String;[CII)Z"⟩ : MethodName) method_3_code 4 (some .boolean) [] ({ frames := 4, cells := 0, slots := 0, locals := 60 } : Room) 0 0 #[(.ref x1), (.ref a2), (.int (2 : Int32)), (.int (3 : Int32))] h0 (Pur (fun v => v = some (.int 1)) h0) := by
  refine Con.intro (plainFor_of_name pn_0) ?_
  intro p e s m below meth c s₁ X0 hx hby hml hZ hown hnm hret hlk e0 hs0
  refine Gl.of (fun _ kq_ => castTop (ef_15 m x1 a2 (2 : Int32) (3 : Int32)) kq_) ?_
  show Gl p e below _ (s₁.setTop (mkF m 0 #[.val (.ref x1), .val (.ref a2), .val (.int (2 : Int32)), .val (.int (3 : Int32))] []))
  refine Gl.of (fun _ kq_ => XS.iloadN X0.here hx rfl (hb hby d27_0) rfl kq_) ?_
  refine Gl.of (fun _ kq_ => XS.aloadN X0.here hx rfl (hb hby d27_1) rfl rfl kq_) ?_
  refine Gl.callVB X0 hx hZ (y := (⟨"java/lang/String", "length", "()I"⟩ : MethodName)) (z := (⟨"java/lang/String", "length", "()I"⟩ : MethodName)) hown (w138 hw) (w79 hw) (notFace_of_selects (args := #[]) (mvT hZ (w81 hw))) (w81 hw) (w80 hw) (desc_ne (by decide)) (W := 1) (fun v => v = some (.int (2 : Int32))) (b := x1) (argsL := []) (rest := [(.int (2 : Int32))]) SN.1 (StrChars.Road.lenW (W := 1) hZ (own_wln hw) (kI := 4) (w7 hw) SN.1 SN.2.1 SN.2.2.1 SN.2.2.2.1 SN.cod SN.up (SC.ext O0.2) hcz SN.2.2.2.2.2 (by decide) (by decide)) (by decide) (by decide) e0 (by rw [hml]; rfl) pd_5 rfl rfl (Nat.le_of_eq rfl) (hb hby d27_2) ?_
  intro v1 T1 X1 e1 hv1
  subst hv1
  show Gl p e below _ (T1.setTop (mkF m 5 #[.val (.ref x1), .val (.ref a2), .val (.int (2 : Int32)), .val (.int (3 : Int32))] [(.int (2 : Int32)), (.int (2 : Int32))]))
  refine Gl.of (fun _ kq_ => XS.icmpYes X1.here hx rfl (pc0 := 5) (pc' := 24) rfl (hb hby d27_5) rfl (flt (by decide : ¬ ((2 : Int32) < (2 : Int32)))).2.1 (by decide) (by decide) kq_) ?_
  refine Gl.of (fun _ kq_ => XS.iconst X1.here hx rfl (hb hby d27_24) kq_) ?_
  refine Gl.of (fun _ kq_ => XS.goto X1.here hx rfl (pc0 := 25) (pc' := 29) rfl (hb hby d27_25) (by decide) (by decide) kq_) ?_
  exact Gl.retN X1 hx hlk hret (by simp) (hb hby d27_29) e1 (⟨rfl, rfl, rfl⟩) (by decide) (by decide)
theorem rmA33 (l : Launch) (Z : State) (a0 : Array Value) (hw : ∀ d ∈ tables_1, d.before a0 Z = true) (h0 : Heap) (x1 t1 a2 : Addr) (kb1 kq : ClassId) (c0 c1 c2 c3 c4 c5 c6 c7 c8 c9 c10 c11 : Int32) (cz : Int32) (fm : Value) (n0 : Nat) (SN : Strg Z h0 x1 t1 kb1 [c10, c11]) (VQ : Arv Z h0 a2 kq .char (12 : Int32) [.int c0, .int c1, .int c2, .int c3, .int c4, .int c5, .int c6, .int c7, .int c8, .int c9, .int c10, .int c11] (.int 0)) (SC : Sta Z Z.heap "java/lang/String" "COMPACT_STRINGS" "Z" (.int cz)) (hcz : ¬ cz = 0) (SF : Sta Z Z.heap "jdk/internal/util/Preconditions" "SIOOBE_FORMATTER" "Ljava/util/function/BiFunction;" fm) (rf : fm.isRef = true) (O0 : Old Z n0 h0) : Con l Z (⟨"com/example/rulr/rulr/policy/MembershipConditionPinLaw", "at", "(Ljava/lang/String;[CII)Z"⟩ : MethodName) method_3_code 4 (some .boolean) [] ({ frames := 4, cells := 0, slots := 0, locals := 60 } : Room) 0 0 #[(.ref x1), (.ref a2), (.int (3 : Int32)), (.int (3 : Int32))] h0 (Pur (fun v => v = some (.int 1)) h0) := by
  refine Con.intro (plainFor_of_name pn_0) ?_
  intro p e s m below meth c s₁ X0 hx hby hml hZ hown hnm hret hlk e0 hs0
  refine Gl.of (fun _ kq_ => castTop (ef_15 m x1 a2 (3 : Int32) (3 : Int32)) kq_) ?_
  show Gl p e below _ (s₁.setTop (mkF m 0 #[.val (.ref x1), .val (.ref a2), .val (.int (3 : Int32)), .val (.int (3 : Int32))] []))
  refine Gl.of (fun _ kq_ => XS.iloadN X0.here hx rfl (hb hby d27_0) rfl kq_) ?_
  refine Gl.of (fun _ kq_ => XS.aloadN X0.here hx rfl (hb hby d27_1) rfl rfl kq_) ?_
  refine Gl.callVB X0 hx hZ (y := (⟨"java/lang/String", "length", "()I"⟩ : MethodName)) (z := (⟨"java/lang/String", "length", "()I"⟩ : MethodName)) hown (w138 hw) (w79 hw) (notFace_of_selects (args := #[]) (mvT hZ (w81 hw))) (w81 hw) (w80 hw) (desc_ne (by decide)) (W := 1) (fun v => v = some (.int (2 : Int32))) (b := x1) (argsL := []) (rest := [(.int (3 : Int32))]) SN.1 (StrChars.Road.lenW (W := 1) hZ (own_wln hw) (kI := 4) (w7 hw) SN.1 SN.2.1 SN.2.2.1 SN.2.2.2.1 SN.cod SN.up (SC.ext O0.2) hcz SN.2.2.2.2.2 (by decide) (by decide)) (by decide) (by decide) e0 (by rw [hml]; rfl) pd_5 rfl rfl (Nat.le_of_eq rfl) (hb hby d27_2) ?_
  intro v1 T1 X1 e1 hv1
  subst hv1
  show Gl p e below _ (T1.setTop (mkF m 5 #[.val (.ref x1), .val (.ref a2), .val (.int (3 : Int32)), .val (.int (3 : Int32))] [(.int (2 : Int32)), (.int (3 : Int32))]))
  refine Gl.of (fun _ kq_ => XS.icmpYes X1.here hx rfl (pc0 := 5) (pc' := 24) rfl (hb hby d27_5) rfl (flt (by decide : ¬ ((3 : Int32) < (2 : Int32)))).2.1 (by decide) (by decide) kq_) ?_
  refine Gl.of (fun _ kq_ => XS.iconst X1.here hx rfl (hb hby d27_24) kq_) ?_
  refine Gl.of (fun _ kq_ => XS.goto X1.here hx rfl (pc0 := 25) (pc' := 29) rfl (hb hby d27_25) (by decide) (by decide) kq_) ?_
  exact Gl.retN X1 hx hlk hret (by simp) (hb hby d27_29) e1 (⟨rfl, rfl, rfl⟩) (by decide) (by decide)
theorem rmA34 (l : Launch) (Z : State) (a0 : Array Value) (hw : ∀ d ∈ tables_1, d.before a0 Z = true) (h0 : Heap) (x1 t1 a2 : Addr) (kb1 kq : ClassId) (c0 c1 c2 c3 c4 c5 c6 c7 c8 c9 c10 c11 : Int32) (cz : Int32) (fm : Value) (n0 : Nat) (SN : Strg Z h0 x1 t1 kb1 [c10, c11]) (VQ : Arv Z h0 a2 kq .char (12 : Int32) [.int c0, .int c1, .int c2, .int c3, .int c4, .int c5, .int c6, .int c7, .int c8, .int c9, .int c10, .int c11] (.int 0)) (SC : Sta Z Z.heap "java/lang/String" "COMPACT_STRINGS" "Z" (.int cz)) (hcz : ¬ cz = 0) (SF : Sta Z Z.heap "jdk/internal/util/Preconditions" "SIOOBE_FORMATTER" "Ljava/util/function/BiFunction;" fm) (rf : fm.isRef = true) (O0 : Old Z n0 h0) : Con l Z (⟨"com/example/rulr/rulr/policy/MembershipConditionPinLaw", "at", "(Ljava/lang/String;[CII)Z"⟩ : MethodName) method_3_code 4 (some .boolean) [] ({ frames := 4, cells := 0, slots := 0, locals := 60 } : Room) 0 0 #[(.ref x1), (.ref a2), (.int (4 : Int32)), (.int (3 : Int32))] h0 (Pur (fun v => v = some (.int 1)) h0) := by
  refine Con.intro (plainFor_of_name pn_0) ?_
  intro p e s m below meth c s₁ X0 hx hby hml hZ hown hnm hret hlk e0 hs0
  refine Gl.of (fun _ kq_ => castTop (ef_15 m x1 a2 (4 : Int32) (3 : Int32)) kq_) ?_
  show Gl p e below _ (s₁.setTop (mkF m 0 #[.val (.ref x1), .val (.ref a2), .val (.int (4 : Int32)), .val (.int (3 : Int32))] []))
  refine Gl.of (fun _ kq_ => XS.iloadN X0.here hx rfl (hb hby d27_0) rfl kq_) ?_
  refine Gl.of (fun _ kq_ => XS.aloadN X0.here hx rfl (hb hby d27_1) rfl rfl kq_) ?_
  refine Gl.callVB X0 hx hZ (y := (⟨"java/lang/String", "length", "()I"⟩ : MethodName)) (z := (⟨"java/lang/String", "length", "()I"⟩ : MethodName)) hown (w138 hw) (w79 hw) (notFace_of_selects (args := #[]) (mvT hZ (w81 hw))) (w81 hw) (w80 hw) (desc_ne (by decide)) (W := 1) (fun v => v = some (.int (2 : Int32))) (b := x1) (argsL := []) (rest := [(.int (4 : Int32))]) SN.1 (StrChars.Road.lenW (W := 1) hZ (own_wln hw) (kI := 4) (w7 hw) SN.1 SN.2.1 SN.2.2.1 SN.2.2.2.1 SN.cod SN.up (SC.ext O0.2) hcz SN.2.2.2.2.2 (by decide) (by decide)) (by decide) (by decide) e0 (by rw [hml]; rfl) pd_5 rfl rfl (Nat.le_of_eq rfl) (hb hby d27_2) ?_
  intro v1 T1 X1 e1 hv1
  subst hv1
  show Gl p e below _ (T1.setTop (mkF m 5 #[.val (.ref x1), .val (.ref a2), .val (.int (4 : Int32)), .val (.int (3 : Int32))] [(.int (2 : Int32)), (.int (4 : Int32))]))
  refine Gl.of (fun _ kq_ => XS.icmpYes X1.here hx rfl (pc0 := 5) (pc' := 24) rfl (hb hby d27_5) rfl (flt (by decide : ¬ ((4 : Int32) < (2 : Int32)))).2.1 (by decide) (by decide) kq_) ?_
  refine Gl.of (fun _ kq_ => XS.iconst X1.here hx rfl (hb hby d27_24) kq_) ?_
  refine Gl.of (fun _ kq_ => XS.goto X1.here hx rfl (pc0 := 25) (pc' := 29) rfl (hb hby d27_25) (by decide) (by decide) kq_) ?_
  exact Gl.retN X1 hx hlk hret (by simp) (hb hby d27_29) e1 (⟨rfl, rfl, rfl⟩) (by decide) (by decide)
theorem d14_14 : decode prog_56_method_5_code 14 = .ok (.aconst_null, 1) := by decide +kernel
theorem d14_15 : decode prog_56_method_5_code 15 = .ok (.goto 20, 3) := by decide +kernel
theorem rmCn (l : Launch) (Z : State) (a0 : Array Value) (hw : ∀ d ∈ tables_1, d.before a0 Z = true) (h0 : Heap) (a1 : Addr) (x1 t1 : Addr) (kb1 : ClassId) (c0 c1 c2 c3 c4 c5 c6 c7 c8 c9 c10 c11 : Int32) (cz : Int32) (fm : Value) (n0 : Nat) (Fq : Fld Z h0 a1 "com/example/rulr/rulr/policy/SqlCondition$Membership" "query" "Ljava/lang/String;" (.ref x1)) (Fs : Fld Z h0 a1 "com/example/rulr/rulr/policy/SqlCondition$Membership" "selected" "I" (.int (12 : Int32))) (SN : Strg Z h0 x1 t1 kb1 [c0, c1, c2, c3, c4, c5, c6, c7, c8, c9, c10, c11]) (hfb : Z.vm.findClass "[B" = some kb1) (SC : Sta Z Z.heap "java/lang/String" "COMPACT_STRINGS" "Z" (.int cz)) (hcz : ¬ cz = 0) (SF : Sta Z Z.heap "jdk/internal/util/Preconditions" "SIOOBE_FORMATTER" "Ljava/util/function/BiFunction;" fm) (rf : fm.isRef = true) (O0 : Old Z n0 h0) : Con l Z (⟨"com/example/rulr/rulr/policy/SqlCondition$Membership", "condition", "()Ljava/lang/String;"⟩ : MethodName) prog_56_method_5_code 1 (some (.object "java/lang/String")) [] ({ frames := 7, cells := 0, slots := 0, locals := 145 } : Room) 0 0 #[(.ref a1)] h0 (Pur (fun v => v = some .null) h0) := by
  refine Con.intro (plainFor_of_name pn_4) ?_
  intro p e s m below meth c s₁ X0 hx hby hml hZ hown hnm hret hlk e0 hs0
  refine Gl.of (fun _ kq_ => castTop (ef_14 m a1) kq_) ?_
  show Gl p e below _ (s₁.setTop (mkF m 0 #[.val (.ref a1)] []))
  refine Gl.of (fun _ kq_ => XS.aloadN X0.here hx rfl (hb hby d14_0) rfl rfl kq_) ?_
  obtain ⟨T1, X1, e1, st1⟩ := getF X0 hx hZ hown (host := "") (Or.inl (w67 hw)) Via.refl e0 Fs (g := (mkF m 1 #[.val (.ref a1)] [(.ref a1)])) rfl rfl (hb hby d14_1)
  refine Gl.of st1 ?_
  show Gl p e below _ (T1.setTop (mkF m 4 #[.val (.ref a1)] [(.int (12 : Int32))]))
  refine Gl.of (fun _ kq_ => XS.aloadN X1.here hx rfl (hb hby d14_4) rfl rfl kq_) ?_
  obtain ⟨T2, X2, e2, st2⟩ := getF X1 hx hZ hown (host := "") (Or.inl (w63 hw)) Via.refl e1 Fq (g := (mkF m 5 #[.val (.ref a1)] [(.ref a1), (.int (12 : Int32))])) rfl rfl (hb hby d14_5)
  refine Gl.of st2 ?_
  show Gl p e below _ (T2.setTop (mkF m 8 #[.val (.ref a1)] [(.ref x1), (.int (12 : Int32))]))
  refine Gl.callVB X2 hx hZ (y := (⟨"java/lang/String", "length", "()I"⟩ : MethodName)) (z := (⟨"java/lang/String", "length", "()I"⟩ : MethodName)) hown (w78 hw) (w79 hw) (notFace_of_selects (args := #[]) (mvT hZ (w81 hw))) (w81 hw) (w80 hw) (desc_ne (by decide)) (W := 1) (fun v => v = some (.int (12 : Int32))) (b := x1) (argsL := []) (rest := [(.int (12 : Int32))]) SN.1 (StrChars.Road.lenW (W := 1) hZ (own_wln hw) (kI := 4) (w7 hw) SN.1 SN.2.1 SN.2.2.1 SN.2.2.2.1 SN.cod SN.up (SC.ext O0.2) hcz SN.2.2.2.2.2 (by decide) (by decide)) (by decide) (by decide) e2 (by rw [hml]; rfl) pd_5 rfl rfl (Nat.le_of_eq rfl) (hb hby d14_8) ?_
  intro v3 T3 X3 e3 hv3
  subst hv3
  show Gl p e below _ (T3.setTop (mkF m 11 #[.val (.ref a1)] [(.int (12 : Int32)), (.int (12 : Int32))]))
  refine Gl.of (fun _ kq_ => XS.icmpNo X3.here hx rfl (hb hby d14_11) rfl (teq (by decide : (12 : Int32) = (12 : Int32))).2 kq_) ?_
  refine Gl.of (fun _ kq_ => XS.aconstNull X3.here hx rfl (hb hby d14_14) kq_) ?_
  refine Gl.of (fun _ kq_ => XS.goto X3.here hx rfl (pc0 := 15) (pc' := 35) rfl (hb hby d14_15) (by decide) (by decide) kq_) ?_
  exact Gl.retR X3 hx hlk hret rfl rfl (hb hby d14_35) e3 (⟨rfl, rfl, rfl⟩) (by decide) (by decide)
theorem ef_16 (m : MethodId) (x0 : Int64) (x1 : Int64) (x2 : Int32) (x3 : Int32) : entryFrame m #[(.long x0), (.long x1), (.int x2), (.int x3)] maxLocals = mkF m 0 #[.val (.long x0), .second, .val (.long x1), .second, .val (.int x2), .val (.int x3), .unset, .unset, .unset, .unset, .unset, .unset, .unset, .unset] [] := by first | (simp [entryFrame, mkF, argsToLocals, Value.category, maxLocals]; done) | rfl
theorem w0 {Z : State} {a0 : Array Value} (hw : ∀ d ∈ tables_1, d.before a0 Z = true) : (Jvm.Cond.arrayClass Jvm.ClassFile.FieldType.char).before a0 Z = true := hw _ (List.mem_of_getElem? (i := 0) rfl)
theorem pd_12 : parseMethodDescriptor "(JI)C" = some ⟨[.long, .int], some .char⟩ := by decide +kernel
theorem w1 {Z : State} {a0 : Array Value} (hw : ∀ d ∈ tables_1, d.before a0 Z = true) : (Jvm.Cond.methodLink "com/example/rulr/rulr/policy/MembershipConditionPinLaw" (19 : Nat) ({ cls := "com/example/rulr/rulr/policy/MembershipConditionPinLaw", name := "ch", desc := "(JI)C" } : Jvm.MethodName)).before a0 Z = true := hw _ (List.mem_of_getElem? (i := 1) rfl)
theorem w2 {Z : State} {a0 : Array Value} (hw : ∀ d ∈ tables_1, d.before a0 Z = true) : (Jvm.Cond.static ({ cls := "com/example/rulr/rulr/policy/MembershipConditionPinLaw", name := "ch", desc := "(JI)C" } : Jvm.MethodName)).before a0 Z = true := hw _ (List.mem_of_getElem? (i := 2) rfl)
theorem w3 {Z : State} {a0 : Array Value} (hw : ∀ d ∈ tables_1, d.before a0 Z = true) : (Jvm.Cond.initialized "com/example/rulr/rulr/policy/MembershipConditionPinLaw").before a0 Z = true := hw _ (List.mem_of_getElem? (i := 3) rfl)
theorem w4 {Z : State} {a0 : Array Value} (hw : ∀ d ∈ tables_1, d.before a0 Z = true) : (Jvm.Cond.code ({ cls := "com/example/rulr/rulr/policy/MembershipConditionPinLaw", name := "ch", desc := "(JI)C" } : Jvm.MethodName) method_2_code (3 : Nat) (Option.some Jvm.ClassFile.FieldType.char)).before a0 Z = true := hw _ (List.mem_of_getElem? (i := 4) rfl)
theorem w6 {Z : State} {a0 : Array Value} (hw : ∀ d ∈ tables_1, d.before a0 Z = true) : (Jvm.Cond.classLink "com/example/rulr/rulr/policy/MembershipConditionPinLaw" (10 : Nat) "java/lang/String").before a0 Z = true := hw _ (List.mem_of_getElem? (i := 6) rfl)
theorem w9 {Z : State} {a0 : Array Value} (hw : ∀ d ∈ tables_1, d.before a0 Z = true) : (Jvm.Cond.methodLink "com/example/rulr/rulr/policy/MembershipConditionPinLaw" (25 : Nat) ({ cls := "java/lang/String", name := "<init>", desc := "([C)V" } : Jvm.MethodName)).before a0 Z = true := hw _ (List.mem_of_getElem? (i := 9) rfl)
theorem w10 {Z : State} {a0 : Array Value} (hw : ∀ d ∈ tables_1, d.before a0 Z = true) : (Jvm.Cond.instanceMethod ({ cls := "java/lang/String", name := "<init>", desc := "([C)V" } : Jvm.MethodName)).before a0 Z = true := hw _ (List.mem_of_getElem? (i := 10) rfl)
theorem w11 {Z : State} {a0 : Array Value} (hw : ∀ d ∈ tables_1, d.before a0 Z = true) : (Jvm.Cond.code ({ cls := "java/lang/String", name := "<init>", desc := "([C)V" } : Jvm.MethodName) jdk_42_method_3_code (2 : Nat) (Option.none : Option Jvm.ClassFile.FieldType)).before a0 Z = true := hw _ (List.mem_of_getElem? (i := 11) rfl)
theorem pd_13 : parseMethodDescriptor "([C)V" = some ⟨[(.array .char)], none⟩ := by decide +kernel
theorem w35 {Z : State} {a0 : Array Value} (hw : ∀ d ∈ tables_1, d.before a0 Z = true) : (Jvm.Cond.classLink "com/example/rulr/rulr/policy/MembershipConditionPinLaw" (28 : Nat) "com/example/rulr/rulr/policy/SqlCondition$Membership").before a0 Z = true := hw _ (List.mem_of_getElem? (i := 35) rfl)
theorem w37 {Z : State} {a0 : Array Value} (hw : ∀ d ∈ tables_1, d.before a0 Z = true) : (Jvm.Cond.initialized "com/example/rulr/rulr/policy/SqlCondition$Membership").before a0 Z = true := hw _ (List.mem_of_getElem? (i := 37) rfl)
theorem pd_14 : parseMethodDescriptor "(C)Ljava/lang/String;" = some ⟨[.char], some (.object "java/lang/String")⟩ := by decide +kernel
theorem w38 {Z : State} {a0 : Array Value} (hw : ∀ d ∈ tables_1, d.before a0 Z = true) : (Jvm.Cond.methodLink "com/example/rulr/rulr/policy/MembershipConditionPinLaw" (30 : Nat) ({ cls := "java/lang/String", name := "valueOf", desc := "(C)Ljava/lang/String;" } : Jvm.MethodName)).before a0 Z = true := hw _ (List.mem_of_getElem? (i := 38) rfl)
theorem w39 {Z : State} {a0 : Array Value} (hw : ∀ d ∈ tables_1, d.before a0 Z = true) : (Jvm.Cond.static ({ cls := "java/lang/String", name := "valueOf", desc := "(C)Ljava/lang/String;" } : Jvm.MethodName)).before a0 Z = true := hw _ (List.mem_of_getElem? (i := 39) rfl)
theorem w40 {Z : State} {a0 : Array Value} (hw : ∀ d ∈ tables_1, d.before a0 Z = true) : (Jvm.Cond.code ({ cls := "java/lang/String", name := "valueOf", desc := "(C)Ljava/lang/String;" } : Jvm.MethodName) jdk_42_method_139_code (1 : Nat) (Option.some (Jvm.ClassFile.FieldType.object "java/lang/String"))).before a0 Z = true := hw _ (List.mem_of_getElem? (i := 40) rfl)
theorem pd_15 : parseMethodDescriptor "(Ljava/lang/String;Ljava/lang/String;Lcom/example/rulr/rulr/policy/SqlCondition$Span;IZI)V" = some ⟨[(.object "java/lang/String"), (.object "java/lang/String"), (.object "com/example/rulr/rulr/policy/SqlCondition$Span"), .int, .boolean, .int], none⟩ := by decide +kernel
theorem w52 {Z : State} {a0 : Array Value} (hw : ∀ d ∈ tables_1, d.before a0 Z = true) : (Jvm.Cond.methodLink "com/example/rulr/rulr/policy/MembershipConditionPinLaw" (34 : Nat) ({ cls := "com/example/rulr/rulr/policy/SqlCondition$Membership", name := "<init>", desc := "(Ljava/lang/String;Ljava/lang/String;Lcom/example/rulr/rulr/policy/SqlCondition$Span;IZI)V" } : Jvm.MethodName)).before a0 Z = true := hw _ (List.mem_of_getElem? (i := 52) rfl)
theorem w53 {Z : State} {a0 : Array Value} (hw : ∀ d ∈ tables_1, d.before a0 Z = true) : (Jvm.Cond.instanceMethod ({ cls := "com/example/rulr/rulr/policy/SqlCondition$Membership", name := "<init>", desc := "(Ljava/lang/String;Ljava/lang/String;Lcom/example/rulr/rulr/policy/SqlCondition$Span;IZI)V" } : Jvm.MethodName)).before a0 Z = true := hw _ (List.mem_of_getElem? (i := 53) rfl)
theorem w54 {Z : State} {a0 : Array Value} (hw : ∀ d ∈ tables_1, d.before a0 Z = true) : (Jvm.Cond.code ({ cls := "com/example/rulr/rulr/policy/SqlCondition$Membership", name := "<init>", desc := "(Ljava/lang/String;Ljava/lang/String;Lcom/example/rulr/rulr/policy/SqlCondition$Span;IZI)V" } : Jvm.MethodName) prog_56_method_1_code (7 : Nat) (Option.none : Option Jvm.ClassFile.FieldType)).before a0 Z = true := hw _ (List.mem_of_getElem? (i := 54) rfl)
theorem pd_16 : parseMethodDescriptor "()Ljava/lang/String;" = some ⟨[], some (.object "java/lang/String")⟩ := by decide +kernel
theorem w76 {Z : State} {a0 : Array Value} (hw : ∀ d ∈ tables_1, d.before a0 Z = true) : (Jvm.Cond.selects "com/example/rulr/rulr/policy/SqlCondition$Membership" ({ cls := "com/example/rulr/rulr/policy/SqlCondition$Membership", name := "condition", desc := "()Ljava/lang/String;" } : Jvm.MethodName) ({ cls := "com/example/rulr/rulr/policy/SqlCondition$Membership", name := "condition", desc := "()Ljava/lang/String;" } : Jvm.MethodName)).before a0 Z = true := hw _ (List.mem_of_getElem? (i := 76) rfl)
theorem w73 {Z : State} {a0 : Array Value} (hw : ∀ d ∈ tables_1, d.before a0 Z = true) : (Jvm.Cond.methodLink "com/example/rulr/rulr/policy/MembershipConditionPinLaw" (37 : Nat) ({ cls := "com/example/rulr/rulr/policy/SqlCondition$Membership", name := "condition", desc := "()Ljava/lang/String;" } : Jvm.MethodName)).before a0 Z = true := hw _ (List.mem_of_getElem? (i := 73) rfl)
theorem w74 {Z : State} {a0 : Array Value} (hw : ∀ d ∈ tables_1, d.before a0 Z = true) : (Jvm.Cond.declares ({ cls := "com/example/rulr/rulr/policy/SqlCondition$Membership", name := "condition", desc := "()Ljava/lang/String;" } : Jvm.MethodName)).before a0 Z = true := hw _ (List.mem_of_getElem? (i := 74) rfl)
theorem w75 {Z : State} {a0 : Array Value} (hw : ∀ d ∈ tables_1, d.before a0 Z = true) : (Jvm.Cond.instanceMethod ({ cls := "com/example/rulr/rulr/policy/SqlCondition$Membership", name := "condition", desc := "()Ljava/lang/String;" } : Jvm.MethodName)).before a0 Z = true := hw _ (List.mem_of_getElem? (i := 75) rfl)
theorem w77 {Z : State} {a0 : Array Value} (hw : ∀ d ∈ tables_1, d.before a0 Z = true) : (Jvm.Cond.code ({ cls := "com/example/rulr/rulr/policy/SqlCondition$Membership", name := "condition", desc := "()Ljava/lang/String;" } : Jvm.MethodName) prog_56_method_5_code (1 : Nat) (Option.some (Jvm.ClassFile.FieldType.object "java/lang/String"))).before a0 Z = true := hw _ (List.mem_of_getElem? (i := 77) rfl)
theorem pd_17 : parseMethodDescriptor "(Ljava/lang/String;[CII)Z" = some ⟨[(.object "java/lang/String"), (.array .char), .int, .int], some .boolean⟩ := by decide +kernel
theorem w139 {Z : State} {a0 : Array Value} (hw : ∀ d ∈ tables_1, d.before a0 Z = true) : (Jvm.Cond.methodLink "com/example/rulr/rulr/policy/MembershipConditionPinLaw" (41 : Nat) ({ cls := "com/example/rulr/rulr/policy/MembershipConditionPinLaw", name := "at", desc := "(Ljava/lang/String;[CII)Z" } : Jvm.MethodName)).before a0 Z = true := hw _ (List.mem_of_getElem? (i := 139) rfl)
theorem w140 {Z : State} {a0 : Array Value} (hw : ∀ d ∈ tables_1, d.before a0 Z = true) : (Jvm.Cond.static ({ cls := "com/example/rulr/rulr/policy/MembershipConditionPinLaw", name := "at", desc := "(Ljava/lang/String;[CII)Z" } : Jvm.MethodName)).before a0 Z = true := hw _ (List.mem_of_getElem? (i := 140) rfl)
theorem w141 {Z : State} {a0 : Array Value} (hw : ∀ d ∈ tables_1, d.before a0 Z = true) : (Jvm.Cond.code ({ cls := "com/example/rulr/rulr/policy/MembershipConditionPinLaw", name := "at", desc := "(Ljava/lang/String;[CII)Z" } : Jvm.MethodName) method_3_code (4 : Nat) (Option.some Jvm.ClassFile.FieldType.boolean)).before a0 Z = true := hw _ (List.mem_of_getElem? (i := 141) rfl)
theorem rm0 (l : Launch) (Z : State) (a0 : Array Value) (hw : ∀ d ∈ tables_1, d.before a0 Z = true) (ws : List Jvm.Cond) (h0 : Heap) (p1 p2 : Int64) (p3 p4 : Int32) (cz : Int32) (fm : Value) (n0 : Nat) (SC : Sta Z Z.heap "java/lang/String" "COMPACT_STRINGS" "Z" (.int cz)) (hcz : ¬ cz = 0) (SF : Sta Z Z.heap "jdk/internal/util/Preconditions" "SIOOBE_FORMATTER" "Ljava/util/function/BiFunction;" fm) (rf : fm.isRef = true) (O0 : Old Z n0 h0) : ConH l Z own_EL x code maxLocals ret ws room_1 32 1216 #[(.long p1), (.long p2), (.int p3), (.int p4)] h0 (fun v h L => v = some (.int 1) ∧ Fr n0 L) := by
  refine ConH.intro (plainFor_of_name pn_0) ?_
  intro p e s m below meth c s₁ X0 hx hby hml hZ hown hnm hret hlk e0 hs0 hR0
  refine Gl.of (fun _ kq_ => castTop (ef_16 m p1 p2 p3 p4) kq_) ?_
  have hS0 := (State.WarmedH.refl s).since 0
  have hk0 : 0 ≤ h0.size := Nat.zero_le _
  have K0 := Keep.refl h0 []
  show Gl p e below _ (s₁.setTop (mkF m 0 #[.val (.long p1), .second, .val (.long p2), .second, .val (.int p3), .val (.int p4), .unset, .unset, .unset, .unset, .unset, .unset, .unset, .unset] []))
  refine Gl.of (fun _ kq_ => XS.bipush X0.here hx rfl (hb hby at_0) kq_) ?_
  obtain ⟨T1, h1, k1, X1, e1, E1, A1, st1⟩ := newP (aty := .char) X0 hx hZ (w0 hw) e0 (g := (mkF m 2 #[.val (.long p1), .second, .val (.long p2), .second, .val (.int p3), .val (.int p4), .unset, .unset, .unset, .unset, .unset, .unset, .unset, .unset] [(.int (12 : Int32))])) rfl (hb hby at_2) rfl (by decide) (cap := 12) (by decide) (by decide) (by decide) (by decide)
  obtain ⟨b1, g1⟩ : ∃ z, z = h0.size := ⟨_, rfl⟩
  rw [← g1] at A1 st1
  refine Gl.of st1 ?_
  have Gb1 : n0 ≤ b1 := Nat.le_trans (O0.1 ▸ O0.2.1) (Nat.le_of_eq g1.symm)
  have Jb1 : h0.size ≤ b1 := Nat.le_trans K0.1 (Nat.le_of_eq g1.symm)
  have O1 := O0.ext E1
  have K1 := K0.ext E1
  have hk1 := Nat.le_trans hk0 E1.1
  have V1 : Arv Z h1 b1 k1 .char (12 : Int32) [(.int (0 : Int32)), (.int (0 : Int32)), (.int (0 : Int32)), (.int (0 : Int32)), (.int (0 : Int32)), (.int (0 : Int32)), (.int (0 : Int32)), (.int (0 : Int32)), (.int (0 : Int32)), (.int (0 : Int32)), (.int (0 : Int32)), (.int (0 : Int32))] (.int (0 : Int32)) := (Arv.new A1 (by decide)).pad (pad_rep [] (.int (0 : Int32)) 12)
  show Gl p e below _ (T1.setTop (mkF m 4 #[.val (.long p1), .second, .val (.long p2), .second, .val (.int p3), .val (.int p4), .unset, .unset, .unset, .unset, .unset, .unset, .unset, .unset] [(.ref b1)]))
  refine Gl.of (fun _ kq_ => XS.astore X1.here hx rfl (hb hby at_4) rfl rfl (l' := #[.val (.long p1), .second, .val (.long p2), .second, .val (.int p3), .val (.int p4), .val (.ref b1), .unset, .unset, .unset, .unset, .unset, .unset, .unset]) rfl kq_) ?_
  refine Gl.of (fun _ kq_ => XS.aload X1.here hx rfl (hb hby at_6) rfl rfl kq_) ?_
  refine Gl.of (fun _ kq_ => XS.iconst X1.here hx rfl (hb hby at_8) kq_) ?_
  refine Gl.of (fun _ kq_ => XS.lloadN X1.here hx rfl (hb hby at_9) rfl kq_) ?_
  refine Gl.of (fun _ kq_ => XS.iconst X1.here hx rfl (hb hby at_10) kq_) ?_
  refine Gl.callS0 X1 hx hZ (y := (⟨"com/example/rulr/rulr/policy/MembershipConditionPinLaw", "ch", "(JI)C"⟩ : MethodName)) hown (w1 hw) (w2 hw) (w3 hw) (w4 hw) (desc_ne (by decide)) (argsL := [(.long p1), (.int (0 : Int32))]) (rest := [(.int (0 : Int32)), (.ref b1)]) (rmH l Z a0 hw _ p1 (0 : Int32)) 2 (by decide) (by decide) e1 (by rw [hml]; rfl) pd_12 rfl rfl (Nat.le_of_eq rfl) (hb hby at_11) (by decide) (by decide) ?_
  intro v2 T2 X2 e2 hv2
  obtain ⟨c2_, rfl, hc2_⟩ := hv2
  show Gl p e below _ (T2.setTop (mkF m 14 #[.val (.long p1), .second, .val (.long p2), .second, .val (.int p3), .val (.int p4), .val (.ref b1), .unset, .unset, .unset, .unset, .unset, .unset, .unset] [(.int c2_), (.int (0 : Int32)), (.ref b1)]))
  obtain ⟨zcl3, zAr3, zq3, zS3, zM3, zH3, zG3⟩ := id V1
  obtain ⟨T4, h4, X4, e4, W4, st4⟩ := stC X2 hx hZ e2 zAr3 (j := (0 : Int32)) (inb_of zS3 ⟨by decide, by decide⟩) (g := (mkF m 14 #[.val (.long p1), .second, .val (.long p2), .second, .val (.int p3), .val (.int p4), .val (.ref b1), .unset, .unset, .unset, .unset, .unset, .unset, .unset] [(.int c2_), (.int (0 : Int32)), (.ref b1)])) rfl rfl (hb hby at_14)
  refine Gl.of st4 ?_
  have V4 : Arv Z h4 b1 k1 .char (12 : Int32) [(.int (nar .char c2_)), (.int (0 : Int32)), (.int (0 : Int32)), (.int (0 : Int32)), (.int (0 : Int32)), (.int (0 : Int32)), (.int (0 : Int32)), (.int (0 : Int32)), (.int (0 : Int32)), (.int (0 : Int32)), (.int (0 : Int32)), (.int (0 : Int32))] (.int (0 : Int32)) := Arv.set zAr3 zq3 zS3 zM3 zH3 zG3 (fits_nar_char _) W4 0 rfl (Nat.le_of_ble_eq_true rfl)
  have N4 := Fr.snoc X4 (Fr.nil n0) Gb1
  have O4 := O1.wr W4 Gb1
  have K4 := K1.wr W4 (Or.inr Jb1)
  have hk4 := Nat.le_trans hk1 (Keep.of_wr W4).1
  show Gl p e below _ (T4.setTop (mkF m 15 #[.val (.long p1), .second, .val (.long p2), .second, .val (.int p3), .val (.int p4), .val (.ref b1), .unset, .unset, .unset, .unset, .unset, .unset, .unset] []))
  refine Gl.of (fun _ kq_ => XS.aload X4.here hx rfl (hb hby at_15) rfl rfl kq_) ?_
  refine Gl.of (fun _ kq_ => XS.iconst X4.here hx rfl (hb hby at_17) kq_) ?_
  refine Gl.of (fun _ kq_ => XS.lloadN X4.here hx rfl (hb hby at_18) rfl kq_) ?_
  refine Gl.of (fun _ kq_ => XS.bipush X4.here hx rfl (hb hby at_19) kq_) ?_
  refine Gl.callS0 X4 hx hZ (y := (⟨"com/example/rulr/rulr/policy/MembershipConditionPinLaw", "ch", "(JI)C"⟩ : MethodName)) hown (w1 hw) (w2 hw) (w3 hw) (w4 hw) (desc_ne (by decide)) (argsL := [(.long p1), (.int (8 : Int32))]) (rest := [(.int (1 : Int32)), (.ref b1)]) (rmH l Z a0 hw _ p1 (8 : Int32)) 2 (by decide) (by decide) e4 (by rw [hml]; rfl) pd_12 rfl rfl (Nat.le_of_eq rfl) (hb hby at_21) (by decide) (by decide) ?_
  intro v5 T5 X5 e5 hv5
  obtain ⟨c5_, rfl, hc5_⟩ := hv5
  show Gl p e below _ (T5.setTop (mkF m 24 #[.val (.long p1), .second, .val (.long p2), .second, .val (.int p3), .val (.int p4), .val (.ref b1), .unset, .unset, .unset, .unset, .unset, .unset, .unset] [(.int c5_), (.int (1 : Int32)), (.ref b1)]))
  obtain ⟨zcl6, zAr6, zq6, zS6, zM6, zH6, zG6⟩ := id V4
  obtain ⟨T7, h7, X7, e7, W7, st7⟩ := stC X5 hx hZ e5 zAr6 (j := (1 : Int32)) (inb_of zS6 ⟨by decide, by decide⟩) (g := (mkF m 24 #[.val (.long p1), .second, .val (.long p2), .second, .val (.int p3), .val (.int p4), .val (.ref b1), .unset, .unset, .unset, .unset, .unset, .unset, .unset] [(.int c5_), (.int (1 : Int32)), (.ref b1)])) rfl rfl (hb hby at_24)
  refine Gl.of st7 ?_
  have V7 : Arv Z h7 b1 k1 .char (12 : Int32) [(.int (nar .char c2_)), (.int (nar .char c5_)), (.int (0 : Int32)), (.int (0 : Int32)), (.int (0 : Int32)), (.int (0 : Int32)), (.int (0 : Int32)), (.int (0 : Int32)), (.int (0 : Int32)), (.int (0 : Int32)), (.int (0 : Int32)), (.int (0 : Int32))] (.int (0 : Int32)) := Arv.set zAr6 zq6 zS6 zM6 zH6 zG6 (fits_nar_char _) W7 1 rfl (Nat.le_of_ble_eq_true rfl)
  have N7 := Fr.snoc X7 N4 Gb1
  have O7 := O4.wr W7 Gb1
  have K7 := K4.wr W7 (Or.inr Jb1)
  have hk7 := Nat.le_trans hk4 (Keep.of_wr W7).1
  show Gl p e below _ (T7.setTop (mkF m 25 #[.val (.long p1), .second, .val (.long p2), .second, .val (.int p3), .val (.int p4), .val (.ref b1), .unset, .unset, .unset, .unset, .unset, .unset, .unset] []))
  refine Gl.of (fun _ kq_ => XS.aload X7.here hx rfl (hb hby at_25) rfl rfl kq_) ?_
  refine Gl.of (fun _ kq_ => XS.iconst X7.here hx rfl (hb hby at_27) kq_) ?_
  refine Gl.of (fun _ kq_ => XS.lloadN X7.here hx rfl (hb hby at_28) rfl kq_) ?_
  refine Gl.of (fun _ kq_ => XS.bipush X7.here hx rfl (hb hby at_29) kq_) ?_
  refine Gl.callS0 X7 hx hZ (y := (⟨"com/example/rulr/rulr/policy/MembershipConditionPinLaw", "ch", "(JI)C"⟩ : MethodName)) hown (w1 hw) (w2 hw) (w3 hw) (w4 hw) (desc_ne (by decide)) (argsL := [(.long p1), (.int (16 : Int32))]) (rest := [(.int (2 : Int32)), (.ref b1)]) (rmH l Z a0 hw _ p1 (16 : Int32)) 2 (by decide) (by decide) e7 (by rw [hml]; rfl) pd_12 rfl rfl (Nat.le_of_eq rfl) (hb hby at_31) (by decide) (by decide) ?_
  intro v8 T8 X8 e8 hv8
  obtain ⟨c8_, rfl, hc8_⟩ := hv8
  show Gl p e below _ (T8.setTop (mkF m 34 #[.val (.long p1), .second, .val (.long p2), .second, .val (.int p3), .val (.int p4), .val (.ref b1), .unset, .unset, .unset, .unset, .unset, .unset, .unset] [(.int c8_), (.int (2 : Int32)), (.ref b1)]))
  obtain ⟨zcl9, zAr9, zq9, zS9, zM9, zH9, zG9⟩ := id V7
  obtain ⟨T10, h10, X10, e10, W10, st10⟩ := stC X8 hx hZ e8 zAr9 (j := (2 : Int32)) (inb_of zS9 ⟨by decide, by decide⟩) (g := (mkF m 34 #[.val (.long p1), .second, .val (.long p2), .second, .val (.int p3), .val (.int p4), .val (.ref b1), .unset, .unset, .unset, .unset, .unset, .unset, .unset] [(.int c8_), (.int (2 : Int32)), (.ref b1)])) rfl rfl (hb hby at_34)
  refine Gl.of st10 ?_
  have V10 : Arv Z h10 b1 k1 .char (12 : Int32) [(.int (nar .char c2_)), (.int (nar .char c5_)), (.int (nar .char c8_)), (.int (0 : Int32)), (.int (0 : Int32)), (.int (0 : Int32)), (.int (0 : Int32)), (.int (0 : Int32)), (.int (0 : Int32)), (.int (0 : Int32)), (.int (0 : Int32)), (.int (0 : Int32))] (.int (0 : Int32)) := Arv.set zAr9 zq9 zS9 zM9 zH9 zG9 (fits_nar_char _) W10 2 rfl (Nat.le_of_ble_eq_true rfl)
  have N10 := Fr.snoc X10 N7 Gb1
  have O10 := O7.wr W10 Gb1
  have K10 := K7.wr W10 (Or.inr Jb1)
  have hk10 := Nat.le_trans hk7 (Keep.of_wr W10).1
  show Gl p e below _ (T10.setTop (mkF m 35 #[.val (.long p1), .second, .val (.long p2), .second, .val (.int p3), .val (.int p4), .val (.ref b1), .unset, .unset, .unset, .unset, .unset, .unset, .unset] []))
  refine Gl.of (fun _ kq_ => XS.aload X10.here hx rfl (hb hby at_35) rfl rfl kq_) ?_
  refine Gl.of (fun _ kq_ => XS.iconst X10.here hx rfl (hb hby at_37) kq_) ?_
  refine Gl.of (fun _ kq_ => XS.lloadN X10.here hx rfl (hb hby at_38) rfl kq_) ?_
  refine Gl.of (fun _ kq_ => XS.bipush X10.here hx rfl (hb hby at_39) kq_) ?_
  refine Gl.callS0 X10 hx hZ (y := (⟨"com/example/rulr/rulr/policy/MembershipConditionPinLaw", "ch", "(JI)C"⟩ : MethodName)) hown (w1 hw) (w2 hw) (w3 hw) (w4 hw) (desc_ne (by decide)) (argsL := [(.long p1), (.int (24 : Int32))]) (rest := [(.int (3 : Int32)), (.ref b1)]) (rmH l Z a0 hw _ p1 (24 : Int32)) 2 (by decide) (by decide) e10 (by rw [hml]; rfl) pd_12 rfl rfl (Nat.le_of_eq rfl) (hb hby at_41) (by decide) (by decide) ?_
  intro v11 T11 X11 e11 hv11
  obtain ⟨c11_, rfl, hc11_⟩ := hv11
  show Gl p e below _ (T11.setTop (mkF m 44 #[.val (.long p1), .second, .val (.long p2), .second, .val (.int p3), .val (.int p4), .val (.ref b1), .unset, .unset, .unset, .unset, .unset, .unset, .unset] [(.int c11_), (.int (3 : Int32)), (.ref b1)]))
  obtain ⟨zcl12, zAr12, zq12, zS12, zM12, zH12, zG12⟩ := id V10
  obtain ⟨T13, h13, X13, e13, W13, st13⟩ := stC X11 hx hZ e11 zAr12 (j := (3 : Int32)) (inb_of zS12 ⟨by decide, by decide⟩) (g := (mkF m 44 #[.val (.long p1), .second, .val (.long p2), .second, .val (.int p3), .val (.int p4), .val (.ref b1), .unset, .unset, .unset, .unset, .unset, .unset, .unset] [(.int c11_), (.int (3 : Int32)), (.ref b1)])) rfl rfl (hb hby at_44)
  refine Gl.of st13 ?_
  have V13 : Arv Z h13 b1 k1 .char (12 : Int32) [(.int (nar .char c2_)), (.int (nar .char c5_)), (.int (nar .char c8_)), (.int (nar .char c11_)), (.int (0 : Int32)), (.int (0 : Int32)), (.int (0 : Int32)), (.int (0 : Int32)), (.int (0 : Int32)), (.int (0 : Int32)), (.int (0 : Int32)), (.int (0 : Int32))] (.int (0 : Int32)) := Arv.set zAr12 zq12 zS12 zM12 zH12 zG12 (fits_nar_char _) W13 3 rfl (Nat.le_of_ble_eq_true rfl)
  have N13 := Fr.snoc X13 N10 Gb1
  have O13 := O10.wr W13 Gb1
  have K13 := K10.wr W13 (Or.inr Jb1)
  have hk13 := Nat.le_trans hk10 (Keep.of_wr W13).1
  show Gl p e below _ (T13.setTop (mkF m 45 #[.val (.long p1), .second, .val (.long p2), .second, .val (.int p3), .val (.int p4), .val (.ref b1), .unset, .unset, .unset, .unset, .unset, .unset, .unset] []))
  refine Gl.of (fun _ kq_ => XS.aload X13.here hx rfl (hb hby at_45) rfl rfl kq_) ?_
  refine Gl.of (fun _ kq_ => XS.iconst X13.here hx rfl (hb hby at_47) kq_) ?_
  refine Gl.of (fun _ kq_ => XS.lloadN X13.here hx rfl (hb hby at_48) rfl kq_) ?_
  refine Gl.of (fun _ kq_ => XS.bipush X13.here hx rfl (hb hby at_49) kq_) ?_
  refine Gl.callS0 X13 hx hZ (y := (⟨"com/example/rulr/rulr/policy/MembershipConditionPinLaw", "ch", "(JI)C"⟩ : MethodName)) hown (w1 hw) (w2 hw) (w3 hw) (w4 hw) (desc_ne (by decide)) (argsL := [(.long p1), (.int (32 : Int32))]) (rest := [(.int (4 : Int32)), (.ref b1)]) (rmH l Z a0 hw _ p1 (32 : Int32)) 2 (by decide) (by decide) e13 (by rw [hml]; rfl) pd_12 rfl rfl (Nat.le_of_eq rfl) (hb hby at_51) (by decide) (by decide) ?_
  intro v14 T14 X14 e14 hv14
  obtain ⟨c14_, rfl, hc14_⟩ := hv14
  show Gl p e below _ (T14.setTop (mkF m 54 #[.val (.long p1), .second, .val (.long p2), .second, .val (.int p3), .val (.int p4), .val (.ref b1), .unset, .unset, .unset, .unset, .unset, .unset, .unset] [(.int c14_), (.int (4 : Int32)), (.ref b1)]))
  obtain ⟨zcl15, zAr15, zq15, zS15, zM15, zH15, zG15⟩ := id V13
  obtain ⟨T16, h16, X16, e16, W16, st16⟩ := stC X14 hx hZ e14 zAr15 (j := (4 : Int32)) (inb_of zS15 ⟨by decide, by decide⟩) (g := (mkF m 54 #[.val (.long p1), .second, .val (.long p2), .second, .val (.int p3), .val (.int p4), .val (.ref b1), .unset, .unset, .unset, .unset, .unset, .unset, .unset] [(.int c14_), (.int (4 : Int32)), (.ref b1)])) rfl rfl (hb hby at_54)
  refine Gl.of st16 ?_
  have V16 : Arv Z h16 b1 k1 .char (12 : Int32) [(.int (nar .char c2_)), (.int (nar .char c5_)), (.int (nar .char c8_)), (.int (nar .char c11_)), (.int (nar .char c14_)), (.int (0 : Int32)), (.int (0 : Int32)), (.int (0 : Int32)), (.int (0 : Int32)), (.int (0 : Int32)), (.int (0 : Int32)), (.int (0 : Int32))] (.int (0 : Int32)) := Arv.set zAr15 zq15 zS15 zM15 zH15 zG15 (fits_nar_char _) W16 4 rfl (Nat.le_of_ble_eq_true rfl)
  have N16 := Fr.snoc X16 N13 Gb1
  have O16 := O13.wr W16 Gb1
  have K16 := K13.wr W16 (Or.inr Jb1)
  have hk16 := Nat.le_trans hk13 (Keep.of_wr W16).1
  show Gl p e below _ (T16.setTop (mkF m 55 #[.val (.long p1), .second, .val (.long p2), .second, .val (.int p3), .val (.int p4), .val (.ref b1), .unset, .unset, .unset, .unset, .unset, .unset, .unset] []))
  refine Gl.of (fun _ kq_ => XS.aload X16.here hx rfl (hb hby at_55) rfl rfl kq_) ?_
  refine Gl.of (fun _ kq_ => XS.iconst X16.here hx rfl (hb hby at_57) kq_) ?_
  refine Gl.of (fun _ kq_ => XS.lloadN X16.here hx rfl (hb hby at_58) rfl kq_) ?_
  refine Gl.of (fun _ kq_ => XS.bipush X16.here hx rfl (hb hby at_59) kq_) ?_
  refine Gl.callS0 X16 hx hZ (y := (⟨"com/example/rulr/rulr/policy/MembershipConditionPinLaw", "ch", "(JI)C"⟩ : MethodName)) hown (w1 hw) (w2 hw) (w3 hw) (w4 hw) (desc_ne (by decide)) (argsL := [(.long p1), (.int (40 : Int32))]) (rest := [(.int (5 : Int32)), (.ref b1)]) (rmH l Z a0 hw _ p1 (40 : Int32)) 2 (by decide) (by decide) e16 (by rw [hml]; rfl) pd_12 rfl rfl (Nat.le_of_eq rfl) (hb hby at_61) (by decide) (by decide) ?_
  intro v17 T17 X17 e17 hv17
  obtain ⟨c17_, rfl, hc17_⟩ := hv17
  show Gl p e below _ (T17.setTop (mkF m 64 #[.val (.long p1), .second, .val (.long p2), .second, .val (.int p3), .val (.int p4), .val (.ref b1), .unset, .unset, .unset, .unset, .unset, .unset, .unset] [(.int c17_), (.int (5 : Int32)), (.ref b1)]))
  obtain ⟨zcl18, zAr18, zq18, zS18, zM18, zH18, zG18⟩ := id V16
  obtain ⟨T19, h19, X19, e19, W19, st19⟩ := stC X17 hx hZ e17 zAr18 (j := (5 : Int32)) (inb_of zS18 ⟨by decide, by decide⟩) (g := (mkF m 64 #[.val (.long p1), .second, .val (.long p2), .second, .val (.int p3), .val (.int p4), .val (.ref b1), .unset, .unset, .unset, .unset, .unset, .unset, .unset] [(.int c17_), (.int (5 : Int32)), (.ref b1)])) rfl rfl (hb hby at_64)
  refine Gl.of st19 ?_
  have V19 : Arv Z h19 b1 k1 .char (12 : Int32) [(.int (nar .char c2_)), (.int (nar .char c5_)), (.int (nar .char c8_)), (.int (nar .char c11_)), (.int (nar .char c14_)), (.int (nar .char c17_)), (.int (0 : Int32)), (.int (0 : Int32)), (.int (0 : Int32)), (.int (0 : Int32)), (.int (0 : Int32)), (.int (0 : Int32))] (.int (0 : Int32)) := Arv.set zAr18 zq18 zS18 zM18 zH18 zG18 (fits_nar_char _) W19 5 rfl (Nat.le_of_ble_eq_true rfl)
  have N19 := Fr.snoc X19 N16 Gb1
  have O19 := O16.wr W19 Gb1
  have K19 := K16.wr W19 (Or.inr Jb1)
  have hk19 := Nat.le_trans hk16 (Keep.of_wr W19).1
  show Gl p e below _ (T19.setTop (mkF m 65 #[.val (.long p1), .second, .val (.long p2), .second, .val (.int p3), .val (.int p4), .val (.ref b1), .unset, .unset, .unset, .unset, .unset, .unset, .unset] []))
  refine Gl.of (fun _ kq_ => XS.aload X19.here hx rfl (hb hby at_65) rfl rfl kq_) ?_
  refine Gl.of (fun _ kq_ => XS.bipush X19.here hx rfl (hb hby at_67) kq_) ?_
  refine Gl.of (fun _ kq_ => XS.lloadN X19.here hx rfl (hb hby at_69) rfl kq_) ?_
  refine Gl.of (fun _ kq_ => XS.bipush X19.here hx rfl (hb hby at_70) kq_) ?_
  refine Gl.callS0 X19 hx hZ (y := (⟨"com/example/rulr/rulr/policy/MembershipConditionPinLaw", "ch", "(JI)C"⟩ : MethodName)) hown (w1 hw) (w2 hw) (w3 hw) (w4 hw) (desc_ne (by decide)) (argsL := [(.long p1), (.int (48 : Int32))]) (rest := [(.int (6 : Int32)), (.ref b1)]) (rmH l Z a0 hw _ p1 (48 : Int32)) 2 (by decide) (by decide) e19 (by rw [hml]; rfl) pd_12 rfl rfl (Nat.le_of_eq rfl) (hb hby at_72) (by decide) (by decide) ?_
  intro v20 T20 X20 e20 hv20
  obtain ⟨c20_, rfl, hc20_⟩ := hv20
  show Gl p e below _ (T20.setTop (mkF m 75 #[.val (.long p1), .second, .val (.long p2), .second, .val (.int p3), .val (.int p4), .val (.ref b1), .unset, .unset, .unset, .unset, .unset, .unset, .unset] [(.int c20_), (.int (6 : Int32)), (.ref b1)]))
  obtain ⟨zcl21, zAr21, zq21, zS21, zM21, zH21, zG21⟩ := id V19
  obtain ⟨T22, h22, X22, e22, W22, st22⟩ := stC X20 hx hZ e20 zAr21 (j := (6 : Int32)) (inb_of zS21 ⟨by decide, by decide⟩) (g := (mkF m 75 #[.val (.long p1), .second, .val (.long p2), .second, .val (.int p3), .val (.int p4), .val (.ref b1), .unset, .unset, .unset, .unset, .unset, .unset, .unset] [(.int c20_), (.int (6 : Int32)), (.ref b1)])) rfl rfl (hb hby at_75)
  refine Gl.of st22 ?_
  have V22 : Arv Z h22 b1 k1 .char (12 : Int32) [(.int (nar .char c2_)), (.int (nar .char c5_)), (.int (nar .char c8_)), (.int (nar .char c11_)), (.int (nar .char c14_)), (.int (nar .char c17_)), (.int (nar .char c20_)), (.int (0 : Int32)), (.int (0 : Int32)), (.int (0 : Int32)), (.int (0 : Int32)), (.int (0 : Int32))] (.int (0 : Int32)) := Arv.set zAr21 zq21 zS21 zM21 zH21 zG21 (fits_nar_char _) W22 6 rfl (Nat.le_of_ble_eq_true rfl)
  have N22 := Fr.snoc X22 N19 Gb1
  have O22 := O19.wr W22 Gb1
  have K22 := K19.wr W22 (Or.inr Jb1)
  have hk22 := Nat.le_trans hk19 (Keep.of_wr W22).1
  show Gl p e below _ (T22.setTop (mkF m 76 #[.val (.long p1), .second, .val (.long p2), .second, .val (.int p3), .val (.int p4), .val (.ref b1), .unset, .unset, .unset, .unset, .unset, .unset, .unset] []))
  refine Gl.of (fun _ kq_ => XS.aload X22.here hx rfl (hb hby at_76) rfl rfl kq_) ?_
  refine Gl.of (fun _ kq_ => XS.bipush X22.here hx rfl (hb hby at_78) kq_) ?_
  refine Gl.of (fun _ kq_ => XS.lloadN X22.here hx rfl (hb hby at_80) rfl kq_) ?_
  refine Gl.of (fun _ kq_ => XS.bipush X22.here hx rfl (hb hby at_81) kq_) ?_
  refine Gl.callS0 X22 hx hZ (y := (⟨"com/example/rulr/rulr/policy/MembershipConditionPinLaw", "ch", "(JI)C"⟩ : MethodName)) hown (w1 hw) (w2 hw) (w3 hw) (w4 hw) (desc_ne (by decide)) (argsL := [(.long p1), (.int (56 : Int32))]) (rest := [(.int (7 : Int32)), (.ref b1)]) (rmH l Z a0 hw _ p1 (56 : Int32)) 2 (by decide) (by decide) e22 (by rw [hml]; rfl) pd_12 rfl rfl (Nat.le_of_eq rfl) (hb hby at_83) (by decide) (by decide) ?_
  intro v23 T23 X23 e23 hv23
  obtain ⟨c23_, rfl, hc23_⟩ := hv23
  show Gl p e below _ (T23.setTop (mkF m 86 #[.val (.long p1), .second, .val (.long p2), .second, .val (.int p3), .val (.int p4), .val (.ref b1), .unset, .unset, .unset, .unset, .unset, .unset, .unset] [(.int c23_), (.int (7 : Int32)), (.ref b1)]))
  obtain ⟨zcl24, zAr24, zq24, zS24, zM24, zH24, zG24⟩ := id V22
  obtain ⟨T25, h25, X25, e25, W25, st25⟩ := stC X23 hx hZ e23 zAr24 (j := (7 : Int32)) (inb_of zS24 ⟨by decide, by decide⟩) (g := (mkF m 86 #[.val (.long p1), .second, .val (.long p2), .second, .val (.int p3), .val (.int p4), .val (.ref b1), .unset, .unset, .unset, .unset, .unset, .unset, .unset] [(.int c23_), (.int (7 : Int32)), (.ref b1)])) rfl rfl (hb hby at_86)
  refine Gl.of st25 ?_
  have V25 : Arv Z h25 b1 k1 .char (12 : Int32) [(.int (nar .char c2_)), (.int (nar .char c5_)), (.int (nar .char c8_)), (.int (nar .char c11_)), (.int (nar .char c14_)), (.int (nar .char c17_)), (.int (nar .char c20_)), (.int (nar .char c23_)), (.int (0 : Int32)), (.int (0 : Int32)), (.int (0 : Int32)), (.int (0 : Int32))] (.int (0 : Int32)) := Arv.set zAr24 zq24 zS24 zM24 zH24 zG24 (fits_nar_char _) W25 7 rfl (Nat.le_of_ble_eq_true rfl)
  have N25 := Fr.snoc X25 N22 Gb1
  have O25 := O22.wr W25 Gb1
  have K25 := K22.wr W25 (Or.inr Jb1)
  have hk25 := Nat.le_trans hk22 (Keep.of_wr W25).1
  show Gl p e below _ (T25.setTop (mkF m 87 #[.val (.long p1), .second, .val (.long p2), .second, .val (.int p3), .val (.int p4), .val (.ref b1), .unset, .unset, .unset, .unset, .unset, .unset, .unset] []))
  refine Gl.of (fun _ kq_ => XS.aload X25.here hx rfl (hb hby at_87) rfl rfl kq_) ?_
  refine Gl.of (fun _ kq_ => XS.bipush X25.here hx rfl (hb hby at_89) kq_) ?_
  refine Gl.of (fun _ kq_ => XS.lloadN X25.here hx rfl (hb hby at_91) rfl kq_) ?_
  refine Gl.of (fun _ kq_ => XS.iconst X25.here hx rfl (hb hby at_92) kq_) ?_
  refine Gl.callS0 X25 hx hZ (y := (⟨"com/example/rulr/rulr/policy/MembershipConditionPinLaw", "ch", "(JI)C"⟩ : MethodName)) hown (w1 hw) (w2 hw) (w3 hw) (w4 hw) (desc_ne (by decide)) (argsL := [(.long p2), (.int (0 : Int32))]) (rest := [(.int (8 : Int32)), (.ref b1)]) (rmH l Z a0 hw _ p2 (0 : Int32)) 2 (by decide) (by decide) e25 (by rw [hml]; rfl) pd_12 rfl rfl (Nat.le_of_eq rfl) (hb hby at_93) (by decide) (by decide) ?_
  intro v26 T26 X26 e26 hv26
  obtain ⟨c26_, rfl, hc26_⟩ := hv26
  show Gl p e below _ (T26.setTop (mkF m 96 #[.val (.long p1), .second, .val (.long p2), .second, .val (.int p3), .val (.int p4), .val (.ref b1), .unset, .unset, .unset, .unset, .unset, .unset, .unset] [(.int c26_), (.int (8 : Int32)), (.ref b1)]))
  obtain ⟨zcl27, zAr27, zq27, zS27, zM27, zH27, zG27⟩ := id V25
  obtain ⟨T28, h28, X28, e28, W28, st28⟩ := stC X26 hx hZ e26 zAr27 (j := (8 : Int32)) (inb_of zS27 ⟨by decide, by decide⟩) (g := (mkF m 96 #[.val (.long p1), .second, .val (.long p2), .second, .val (.int p3), .val (.int p4), .val (.ref b1), .unset, .unset, .unset, .unset, .unset, .unset, .unset] [(.int c26_), (.int (8 : Int32)), (.ref b1)])) rfl rfl (hb hby at_96)
  refine Gl.of st28 ?_
  have V28 : Arv Z h28 b1 k1 .char (12 : Int32) [(.int (nar .char c2_)), (.int (nar .char c5_)), (.int (nar .char c8_)), (.int (nar .char c11_)), (.int (nar .char c14_)), (.int (nar .char c17_)), (.int (nar .char c20_)), (.int (nar .char c23_)), (.int (nar .char c26_)), (.int (0 : Int32)), (.int (0 : Int32)), (.int (0 : Int32))] (.int (0 : Int32)) := Arv.set zAr27 zq27 zS27 zM27 zH27 zG27 (fits_nar_char _) W28 8 rfl (Nat.le_of_ble_eq_true rfl)
  have N28 := Fr.snoc X28 N25 Gb1
  have O28 := O25.wr W28 Gb1
  have K28 := K25.wr W28 (Or.inr Jb1)
  have hk28 := Nat.le_trans hk25 (Keep.of_wr W28).1
  show Gl p e below _ (T28.setTop (mkF m 97 #[.val (.long p1), .second, .val (.long p2), .second, .val (.int p3), .val (.int p4), .val (.ref b1), .unset, .unset, .unset, .unset, .unset, .unset, .unset] []))
  refine Gl.of (fun _ kq_ => XS.aload X28.here hx rfl (hb hby at_97) rfl rfl kq_) ?_
  refine Gl.of (fun _ kq_ => XS.bipush X28.here hx rfl (hb hby at_99) kq_) ?_
  refine Gl.of (fun _ kq_ => XS.lloadN X28.here hx rfl (hb hby at_101) rfl kq_) ?_
  refine Gl.of (fun _ kq_ => XS.bipush X28.here hx rfl (hb hby at_102) kq_) ?_
  refine Gl.callS0 X28 hx hZ (y := (⟨"com/example/rulr/rulr/policy/MembershipConditionPinLaw", "ch", "(JI)C"⟩ : MethodName)) hown (w1 hw) (w2 hw) (w3 hw) (w4 hw) (desc_ne (by decide)) (argsL := [(.long p2), (.int (8 : Int32))]) (rest := [(.int (9 : Int32)), (.ref b1)]) (rmH l Z a0 hw _ p2 (8 : Int32)) 2 (by decide) (by decide) e28 (by rw [hml]; rfl) pd_12 rfl rfl (Nat.le_of_eq rfl) (hb hby at_104) (by decide) (by decide) ?_
  intro v29 T29 X29 e29 hv29
  obtain ⟨c29_, rfl, hc29_⟩ := hv29
  show Gl p e below _ (T29.setTop (mkF m 107 #[.val (.long p1), .second, .val (.long p2), .second, .val (.int p3), .val (.int p4), .val (.ref b1), .unset, .unset, .unset, .unset, .unset, .unset, .unset] [(.int c29_), (.int (9 : Int32)), (.ref b1)]))
  obtain ⟨zcl30, zAr30, zq30, zS30, zM30, zH30, zG30⟩ := id V28
  obtain ⟨T31, h31, X31, e31, W31, st31⟩ := stC X29 hx hZ e29 zAr30 (j := (9 : Int32)) (inb_of zS30 ⟨by decide, by decide⟩) (g := (mkF m 107 #[.val (.long p1), .second, .val (.long p2), .second, .val (.int p3), .val (.int p4), .val (.ref b1), .unset, .unset, .unset, .unset, .unset, .unset, .unset] [(.int c29_), (.int (9 : Int32)), (.ref b1)])) rfl rfl (hb hby at_107)
  refine Gl.of st31 ?_
  have V31 : Arv Z h31 b1 k1 .char (12 : Int32) [(.int (nar .char c2_)), (.int (nar .char c5_)), (.int (nar .char c8_)), (.int (nar .char c11_)), (.int (nar .char c14_)), (.int (nar .char c17_)), (.int (nar .char c20_)), (.int (nar .char c23_)), (.int (nar .char c26_)), (.int (nar .char c29_)), (.int (0 : Int32)), (.int (0 : Int32))] (.int (0 : Int32)) := Arv.set zAr30 zq30 zS30 zM30 zH30 zG30 (fits_nar_char _) W31 9 rfl (Nat.le_of_ble_eq_true rfl)
  have N31 := Fr.snoc X31 N28 Gb1
  have O31 := O28.wr W31 Gb1
  have K31 := K28.wr W31 (Or.inr Jb1)
  have hk31 := Nat.le_trans hk28 (Keep.of_wr W31).1
  show Gl p e below _ (T31.setTop (mkF m 108 #[.val (.long p1), .second, .val (.long p2), .second, .val (.int p3), .val (.int p4), .val (.ref b1), .unset, .unset, .unset, .unset, .unset, .unset, .unset] []))
  refine Gl.of (fun _ kq_ => XS.aload X31.here hx rfl (hb hby at_108) rfl rfl kq_) ?_
  refine Gl.of (fun _ kq_ => XS.bipush X31.here hx rfl (hb hby at_110) kq_) ?_
  refine Gl.of (fun _ kq_ => XS.lloadN X31.here hx rfl (hb hby at_112) rfl kq_) ?_
  refine Gl.of (fun _ kq_ => XS.bipush X31.here hx rfl (hb hby at_113) kq_) ?_
  refine Gl.callS0 X31 hx hZ (y := (⟨"com/example/rulr/rulr/policy/MembershipConditionPinLaw", "ch", "(JI)C"⟩ : MethodName)) hown (w1 hw) (w2 hw) (w3 hw) (w4 hw) (desc_ne (by decide)) (argsL := [(.long p2), (.int (16 : Int32))]) (rest := [(.int (10 : Int32)), (.ref b1)]) (rmH l Z a0 hw _ p2 (16 : Int32)) 2 (by decide) (by decide) e31 (by rw [hml]; rfl) pd_12 rfl rfl (Nat.le_of_eq rfl) (hb hby at_115) (by decide) (by decide) ?_
  intro v32 T32 X32 e32 hv32
  obtain ⟨c32_, rfl, hc32_⟩ := hv32
  show Gl p e below _ (T32.setTop (mkF m 118 #[.val (.long p1), .second, .val (.long p2), .second, .val (.int p3), .val (.int p4), .val (.ref b1), .unset, .unset, .unset, .unset, .unset, .unset, .unset] [(.int c32_), (.int (10 : Int32)), (.ref b1)]))
  obtain ⟨zcl33, zAr33, zq33, zS33, zM33, zH33, zG33⟩ := id V31
  obtain ⟨T34, h34, X34, e34, W34, st34⟩ := stC X32 hx hZ e32 zAr33 (j := (10 : Int32)) (inb_of zS33 ⟨by decide, by decide⟩) (g := (mkF m 118 #[.val (.long p1), .second, .val (.long p2), .second, .val (.int p3), .val (.int p4), .val (.ref b1), .unset, .unset, .unset, .unset, .unset, .unset, .unset] [(.int c32_), (.int (10 : Int32)), (.ref b1)])) rfl rfl (hb hby at_118)
  refine Gl.of st34 ?_
  have V34 : Arv Z h34 b1 k1 .char (12 : Int32) [(.int (nar .char c2_)), (.int (nar .char c5_)), (.int (nar .char c8_)), (.int (nar .char c11_)), (.int (nar .char c14_)), (.int (nar .char c17_)), (.int (nar .char c20_)), (.int (nar .char c23_)), (.int (nar .char c26_)), (.int (nar .char c29_)), (.int (nar .char c32_)), (.int (0 : Int32))] (.int (0 : Int32)) := Arv.set zAr33 zq33 zS33 zM33 zH33 zG33 (fits_nar_char _) W34 10 rfl (Nat.le_of_ble_eq_true rfl)
  have N34 := Fr.snoc X34 N31 Gb1
  have O34 := O31.wr W34 Gb1
  have K34 := K31.wr W34 (Or.inr Jb1)
  have hk34 := Nat.le_trans hk31 (Keep.of_wr W34).1
  show Gl p e below _ (T34.setTop (mkF m 119 #[.val (.long p1), .second, .val (.long p2), .second, .val (.int p3), .val (.int p4), .val (.ref b1), .unset, .unset, .unset, .unset, .unset, .unset, .unset] []))
  refine Gl.of (fun _ kq_ => XS.aload X34.here hx rfl (hb hby at_119) rfl rfl kq_) ?_
  refine Gl.of (fun _ kq_ => XS.bipush X34.here hx rfl (hb hby at_121) kq_) ?_
  refine Gl.of (fun _ kq_ => XS.lloadN X34.here hx rfl (hb hby at_123) rfl kq_) ?_
  refine Gl.of (fun _ kq_ => XS.bipush X34.here hx rfl (hb hby at_124) kq_) ?_
  refine Gl.callS0 X34 hx hZ (y := (⟨"com/example/rulr/rulr/policy/MembershipConditionPinLaw", "ch", "(JI)C"⟩ : MethodName)) hown (w1 hw) (w2 hw) (w3 hw) (w4 hw) (desc_ne (by decide)) (argsL := [(.long p2), (.int (24 : Int32))]) (rest := [(.int (11 : Int32)), (.ref b1)]) (rmH l Z a0 hw _ p2 (24 : Int32)) 2 (by decide) (by decide) e34 (by rw [hml]; rfl) pd_12 rfl rfl (Nat.le_of_eq rfl) (hb hby at_126) (by decide) (by decide) ?_
  intro v35 T35 X35 e35 hv35
  obtain ⟨c35_, rfl, hc35_⟩ := hv35
  show Gl p e below _ (T35.setTop (mkF m 129 #[.val (.long p1), .second, .val (.long p2), .second, .val (.int p3), .val (.int p4), .val (.ref b1), .unset, .unset, .unset, .unset, .unset, .unset, .unset] [(.int c35_), (.int (11 : Int32)), (.ref b1)]))
  obtain ⟨zcl36, zAr36, zq36, zS36, zM36, zH36, zG36⟩ := id V34
  obtain ⟨T37, h37, X37, e37, W37, st37⟩ := stC X35 hx hZ e35 zAr36 (j := (11 : Int32)) (inb_of zS36 ⟨by decide, by decide⟩) (g := (mkF m 129 #[.val (.long p1), .second, .val (.long p2), .second, .val (.int p3), .val (.int p4), .val (.ref b1), .unset, .unset, .unset, .unset, .unset, .unset, .unset] [(.int c35_), (.int (11 : Int32)), (.ref b1)])) rfl rfl (hb hby at_129)
  refine Gl.of st37 ?_
  have V37 : Arv Z h37 b1 k1 .char (12 : Int32) [(.int (nar .char c2_)), (.int (nar .char c5_)), (.int (nar .char c8_)), (.int (nar .char c11_)), (.int (nar .char c14_)), (.int (nar .char c17_)), (.int (nar .char c20_)), (.int (nar .char c23_)), (.int (nar .char c26_)), (.int (nar .char c29_)), (.int (nar .char c32_)), (.int (nar .char c35_))] (.int (0 : Int32)) := Arv.set zAr36 zq36 zS36 zM36 zH36 zG36 (fits_nar_char _) W37 11 rfl (Nat.le_of_ble_eq_true rfl)
  have N37 := Fr.snoc X37 N34 Gb1
  have O37 := O34.wr W37 Gb1
  have K37 := K34.wr W37 (Or.inr Jb1)
  have hk37 := Nat.le_trans hk34 (Keep.of_wr W37).1
  show Gl p e below _ (T37.setTop (mkF m 130 #[.val (.long p1), .second, .val (.long p2), .second, .val (.int p3), .val (.int p4), .val (.ref b1), .unset, .unset, .unset, .unset, .unset, .unset, .unset] []))
  refine Gl.of (fun _ kq_ => XS.iload X37.here hx rfl (hb hby at_130) rfl kq_) ?_
  refine Gl.of (fun _ kq_ => XS.iconst X37.here hx rfl (hb hby at_132) kq_) ?_
  refine Gl.of (fun _ kq_ => XS.iand X37.here hx rfl (hb hby at_133) rfl kq_) ?_
  by_cases hc134_38 : (p3 &&& (4 : Int32)) = (0 : Int32)
  · refine Gl.of (fun _ kq_ => XS.ifYes X37.here hx rfl (pc0 := 134) (pc' := 141) rfl (hb hby at_134) rfl ((if0 _ _).trans (teq hc134_38).1) (by decide) (by decide) kq_) ?_
    refine Gl.of (fun _ kq_ => XS.iconst X37.here hx rfl (hb hby at_141) kq_) ?_
    refine Gl.of (fun _ kq_ => XS.istore X37.here hx rfl (hb hby at_142) rfl (l' := #[.val (.long p1), .second, .val (.long p2), .second, .val (.int p3), .val (.int p4), .val (.ref b1), .val (.int (0 : Int32)), .unset, .unset, .unset, .unset, .unset, .unset]) rfl kq_) ?_
    show Gl p e below _ (T37.setTop (mkF m 144 #[.val (.long p1), .second, .val (.long p2), .second, .val (.int p3), .val (.int p4), .val (.ref b1), .val (.int (0 : Int32)), .unset, .unset, .unset, .unset, .unset, .unset] []))
    refine Gl.of (fun _ kq_ => XS.iload X37.here hx rfl (hb hby at_144) rfl kq_) ?_
    refine Gl.of (fun _ kq_ => XS.iconst X37.here hx rfl (hb hby at_146) kq_) ?_
    refine Gl.of (fun _ kq_ => XS.iand X37.here hx rfl (hb hby at_147) rfl kq_) ?_
    refine Gl.of (fun _ kq_ => XS.istore X37.here hx rfl (hb hby at_148) rfl (l' := #[.val (.long p1), .second, .val (.long p2), .second, .val (.int p3), .val (.int p4), .val (.ref b1), .val (.int (0 : Int32)), .val (.int (p3 &&& (3 : Int32))), .unset, .unset, .unset, .unset, .unset]) rfl kq_) ?_
    refine Gl.of (fun _ kq_ => XS.iload X37.here hx rfl (hb hby at_150) rfl kq_) ?_
    refine Gl.of (fun _ kq_ => XS.ifYes X37.here hx rfl (pc0 := 152) (pc' := 224) rfl (hb hby at_152) rfl ((if0 _ _).trans (teq (by decide : (0 : Int32) = (0 : Int32))).1) (by decide) (by decide) kq_) ?_
    show Gl p e below _ (T37.setTop (mkF m 224 #[.val (.long p1), .second, .val (.long p2), .second, .val (.int p3), .val (.int p4), .val (.ref b1), .val (.int (0 : Int32)), .val (.int (p3 &&& (3 : Int32))), .unset, .unset, .unset, .unset, .unset] []))
    refine Gl.of (fun _ kq_ => XS.bipush X37.here hx rfl (hb hby at_224) kq_) ?_
    refine Gl.of (fun _ kq_ => XS.istore X37.here hx rfl (hb hby at_226) rfl (l' := #[.val (.long p1), .second, .val (.long p2), .second, .val (.int p3), .val (.int p4), .val (.ref b1), .val (.int (0 : Int32)), .val (.int (p3 &&& (3 : Int32))), .val (.int (12 : Int32)), .unset, .unset, .unset, .unset]) rfl kq_) ?_
    obtain ⟨T39, h39, X39, e39, E39, A39, D39, -, st39⟩ := newO X37 hx hZ hown (w6 hw) (w7 hw) (w8 hw) e37 (g := (mkF m 228 #[.val (.long p1), .second, .val (.long p2), .second, .val (.int p3), .val (.int p4), .val (.ref b1), .val (.int (0 : Int32)), .val (.int (p3 &&& (3 : Int32))), .val (.int (12 : Int32)), .unset, .unset, .unset, .unset] [])) rfl (hb hby at_228) (by decide) (by decide)
    obtain ⟨b39, g39⟩ : ∃ z, z = h37.size := ⟨_, rfl⟩
    rw [← g39] at A39 D39 st39
    refine Gl.of st39 ?_
    have Gb39 : n0 ≤ b39 := Nat.le_trans (O37.1 ▸ O37.2.1) (Nat.le_of_eq g39.symm)
    have Jb39 : h0.size ≤ b39 := Nat.le_trans K37.1 (Nat.le_of_eq g39.symm)
    have ne_b1_b39 : b1 ≠ b39 := Nat.ne_of_lt (Nat.lt_of_lt_of_le V37.lt (Nat.le_of_eq g39.symm))
    have vc40 := V37.ext E39
    have O39 := O37.ext E39
    have K39 := K37.ext E39
    have hk39 := Nat.le_trans hk37 E39.1
    have F39_coder : Fld Z h39 b39 "java/lang/String" "coder" "B" (.int (0 : Int32)) := D39 (Or.inr (w32 hw)) (ty := .byte) (by decide)
    have F39_value : Fld Z h39 b39 "java/lang/String" "value" "[B" .null := D39 (Or.inr (w34 hw)) (ty := (.array .byte)) (by decide)
    show Gl p e below _ (T39.setTop (mkF m 231 #[.val (.long p1), .second, .val (.long p2), .second, .val (.int p3), .val (.int p4), .val (.ref b1), .val (.int (0 : Int32)), .val (.int (p3 &&& (3 : Int32))), .val (.int (12 : Int32)), .unset, .unset, .unset, .unset] [(.ref b39)]))
    refine Gl.of (fun _ kq_ => XS.dup X39.here hx rfl (hb hby at_231) rfl rfl kq_) ?_
    refine Gl.of (fun _ kq_ => XS.aload X39.here hx rfl (hb hby at_232) rfl rfl kq_) ?_
    have hp41 : ∀ c ∈ ([(nar .char c2_), (nar .char c5_), (nar .char c8_), (nar .char c11_), (nar .char c14_), (nar .char c17_), (nar .char c20_), (nar .char c23_), (nar .char c26_), (nar .char c29_), (nar .char c32_), (nar .char c35_)] : List Int32), ¬ c < 0 ∧ ¬ (255 : Int32) < c := own_cons (own_nr hc2_) (own_cons (own_nr hc5_) (own_cons (own_nr hc8_) (own_cons (own_nr hc11_) (own_cons (own_nr hc14_) (own_cons (own_nr hc17_) (own_cons (own_nr hc20_) (own_cons (own_nr hc23_) (own_cons (own_nr hc26_) (own_cons (own_nr hc29_) (own_cons (own_nr hc32_) (own_cons (own_nr hc35_) (own_nil))))))))))))
    refine Gl.callIB X39 hx hZ (y := (⟨"java/lang/String", "<init>", "([C)V"⟩ : MethodName)) rfl hown (w9 hw) (w10 hw) (w11 hw) (desc_ne (by decide)) (C := 1) (N := 12) (W := 1) (own_QB Z b39 (12 : Int32) ((([(nar .char c2_), (nar .char c5_), (nar .char c8_), (nar .char c11_), (nar .char c14_), (nar .char c17_), (nar .char c20_), (nar .char c23_), (nar .char c26_), (nar .char c29_), (nar .char c32_), (nar .char c35_)] : List Int32)).map (fun c => c.toInt8.toInt32)) h39 n0) (b := b39) (argsL := [(.ref b1)]) (rest := [(.ref b39)]) (own_backB (W := 1) hZ (own_ws hw) (kI := 4) (w7 hw) (cs := ([(nar .char c2_), (nar .char c5_), (nar .char c8_), (nar .char c11_), (nar .char c14_), (nar .char c17_), (nar .char c20_), (nar .char c23_), (nar .char c26_), (nar .char c29_), (nar .char c32_), (nar .char c35_)] : List Int32)) (bs := (([(nar .char c2_), (nar .char c5_), (nar .char c8_), (nar .char c11_), (nar .char c14_), (nar .char c17_), (nar .char c20_), (nar .char c23_), (nar .char c26_), (nar .char c29_), (nar .char c32_), (nar .char c35_)] : List Int32)).map (fun c => c.toInt8.toInt32)) (n := 12) Gb39 (O39.1 ▸ O39.2.1) A39 F39_value F39_coder vc40 (SC.ext O39.2) hcz rfl rfl (by decide) (by decide) hp41 rfl (by decide) (by decide)) (by decide) (by decide) e39 (by rw [hml]; rfl) pd_13 rfl rfl (Nat.le_of_eq rfl) (hb hby at_234) ?_
    intro v41 T41 L41 X41 hQ41
    obtain ⟨rfl, Nq41, Kq41, Eq41, Cq41, t41, kb41, Gt41, Ht41, nt41, Vq41, fb41, Bq41⟩ := hQ41
    have N41 := Fr.app N37 Nq41
    have Gt41 : n0 ≤ t41 := Gt41
    have ne_b1_t41 : b1 ≠ t41 := Nat.ne_of_lt (Nat.lt_of_lt_of_le vc40.lt Ht41)
    have ne_b39_t41 : b39 ≠ t41 := Nat.ne_of_lt (Nat.lt_of_lt_of_le A39.lt Ht41)
    have Jt41 : h0.size ≤ t41 := Nat.le_trans K39.1 Ht41
    have vc42 := vc40.keep Kq41 (fun q => ne_b1_b39 (List.mem_singleton.mp q))
    have ec43 := A39.keep Kq41
    have O41 := O39.keep Kq41 (allS Gb39 all0)
    have K41 := K39.trans Kq41 (by intro x hx'; cases List.mem_singleton.mp hx'; exact Or.inr Jb39)
    have hk41 := Nat.le_trans hk39 Kq41.1
    have SG41 : Strg Z T41.heap b39 t41 kb41 ([(nar .char c2_), (nar .char c5_), (nar .char c8_), (nar .char c11_), (nar .char c14_), (nar .char c17_), (nar .char c20_), (nar .char c23_), (nar .char c26_), (nar .char c29_), (nar .char c32_), (nar .char c35_)] : List Int32) := ⟨Eq41, Vq41, Cq41, Bq41, hp41, Nat.le_of_ble_eq_true rfl⟩
    show Gl p e below _ (T41.setTop (mkF m 237 #[.val (.long p1), .second, .val (.long p2), .second, .val (.int p3), .val (.int p4), .val (.ref b1), .val (.int (0 : Int32)), .val (.int (p3 &&& (3 : Int32))), .val (.int (12 : Int32)), .unset, .unset, .unset, .unset] [(.ref b39)]))
    refine Gl.of (fun _ kq_ => XS.astore X41.here hx rfl (hb hby at_237) rfl rfl (l' := #[.val (.long p1), .second, .val (.long p2), .second, .val (.int p3), .val (.int p4), .val (.ref b1), .val (.int (0 : Int32)), .val (.int (p3 &&& (3 : Int32))), .val (.int (12 : Int32)), .val (.ref b39), .unset, .unset, .unset]) rfl kq_) ?_
    obtain ⟨T44, h44, X44, e44, E44, A44, D44, -, st44⟩ := newO X41 hx hZ hown (w35 hw) (w36 hw) (w37 hw) rfl (g := (mkF m 239 #[.val (.long p1), .second, .val (.long p2), .second, .val (.int p3), .val (.int p4), .val (.ref b1), .val (.int (0 : Int32)), .val (.int (p3 &&& (3 : Int32))), .val (.int (12 : Int32)), .val (.ref b39), .unset, .unset, .unset] [])) rfl (hb hby at_239) (by decide) (by decide)
    obtain ⟨b44, g44⟩ : ∃ z, z = T41.heap.size := ⟨_, rfl⟩
    rw [← g44] at A44 D44 st44
    refine Gl.of st44 ?_
    have Gb44 : n0 ≤ b44 := Nat.le_trans (O41.1 ▸ O41.2.1) (Nat.le_of_eq g44.symm)
    have Jb44 : h0.size ≤ b44 := Nat.le_trans K41.1 (Nat.le_of_eq g44.symm)
    have ne_b1_b44 : b1 ≠ b44 := Nat.ne_of_lt (Nat.lt_of_lt_of_le vc42.lt (Nat.le_of_eq g44.symm))
    have ne_b39_b44 : b39 ≠ b44 := Nat.ne_of_lt (Nat.lt_of_lt_of_le SG41.lt (Nat.le_of_eq g44.symm))
    have ne_t41_b44 : t41 ≠ b44 := Nat.ne_of_lt (Nat.lt_of_lt_of_le SG41.lt' (Nat.le_of_eq g44.symm))
    have vc45 := vc42.ext E44
    have gc46 := SG41.ext E44
    have O44 := O41.ext E44
    have K44 := K41.ext E44
    have hk44 := Nat.le_trans hk41 E44.1
    have F44_column : Fld Z h44 b44 "com/example/rulr/rulr/policy/SqlCondition$Membership" "column" "Ljava/lang/String;" .null := D44 (Or.inr (w62 hw)) (ty := (.object "java/lang/String")) (by decide)
    have F44_query : Fld Z h44 b44 "com/example/rulr/rulr/policy/SqlCondition$Membership" "query" "Ljava/lang/String;" .null := D44 (Or.inr (w64 hw)) (ty := (.object "java/lang/String")) (by decide)
    have F44_varying : Fld Z h44 b44 "com/example/rulr/rulr/policy/SqlCondition$Membership" "varying" "Lcom/example/rulr/rulr/policy/SqlCondition$Span;" .null := D44 (Or.inr (w66 hw)) (ty := (.object "com/example/rulr/rulr/policy/SqlCondition$Span")) (by decide)
    have F44_selected : Fld Z h44 b44 "com/example/rulr/rulr/policy/SqlCondition$Membership" "selected" "I" (.int (0 : Int32)) := D44 (Or.inr (w68 hw)) (ty := .int) (by decide)
    have F44_anchored : Fld Z h44 b44 "com/example/rulr/rulr/policy/SqlCondition$Membership" "anchored" "Z" (.int (0 : Int32)) := D44 (Or.inr (w70 hw)) (ty := .boolean) (by decide)
    have F44_joined : Fld Z h44 b44 "com/example/rulr/rulr/policy/SqlCondition$Membership" "joined" "I" (.int (0 : Int32)) := D44 (Or.inr (w72 hw)) (ty := .int) (by decide)
    show Gl p e below _ (T44.setTop (mkF m 242 #[.val (.long p1), .second, .val (.long p2), .second, .val (.int p3), .val (.int p4), .val (.ref b1), .val (.int (0 : Int32)), .val (.int (p3 &&& (3 : Int32))), .val (.int (12 : Int32)), .val (.ref b39), .unset, .unset, .unset] [(.ref b44)]))
    refine Gl.of (fun _ kq_ => XS.dup X44.here hx rfl (hb hby at_242) rfl rfl kq_) ?_
    refine Gl.of (fun _ kq_ => XS.lloadN X44.here hx rfl (hb hby at_243) rfl kq_) ?_
    refine Gl.of (fun _ kq_ => XS.bipush X44.here hx rfl (hb hby at_244) kq_) ?_
    refine Gl.callS0 X44 hx hZ (y := (⟨"com/example/rulr/rulr/policy/MembershipConditionPinLaw", "ch", "(JI)C"⟩ : MethodName)) hown (w1 hw) (w2 hw) (w3 hw) (w4 hw) (desc_ne (by decide)) (argsL := [(.long p2), (.int (32 : Int32))]) (rest := [(.ref b44), (.ref b44)]) (rmH l Z a0 hw _ p2 (32 : Int32)) 2 (by decide) (by decide) e44 (by rw [hml]; rfl) pd_12 rfl rfl (Nat.le_of_eq rfl) (hb hby at_246) (by decide) (by decide) ?_
    intro v47 T47 X47 e47 hv47
    obtain ⟨c47_, rfl, hc47_⟩ := hv47
    show Gl p e below _ (T47.setTop (mkF m 249 #[.val (.long p1), .second, .val (.long p2), .second, .val (.int p3), .val (.int p4), .val (.ref b1), .val (.int (0 : Int32)), .val (.int (p3 &&& (3 : Int32))), .val (.int (12 : Int32)), .val (.ref b39), .unset, .unset, .unset] [(.int c47_), (.ref b44), (.ref b44)]))
    refine Gl.callS X47 hx hZ (y := (⟨"java/lang/String", "valueOf", "(C)Ljava/lang/String;"⟩ : MethodName)) hown (w38 hw) (w39 hw) (w8 hw) (w40 hw) (desc_ne (by decide)) (rm := { frames := 2, cells := 2, slots := 5, locals := 33 }) (argsL := [(.int c47_)]) (rest := [(.ref b44), (.ref b44)]) (rmV l Z a0 hw _ c47_ cz n0 hc47_ SC hcz O44) 2 (by decide) (by decide) (by decide) (by decide) e47 (by rw [hml]; rfl) pd_14 rfl rfl (Nat.le_of_eq rfl) (hb hby at_249) ?_
    intro v48 T48 L48 X48 hQ48
    obtain ⟨r48, rfl, Kq48, Nq48⟩ := hQ48
    have N48 := Fr.app N41 Nq48
    have vc49 := vc45.keep Kq48 (by simp)
    have gc50 := gc46.keep Kq48 (by simp) (by simp)
    have ec51 := A44.keep Kq48
    have fc52 := F44_column.keep Kq48 (by simp)
    have fc53 := F44_query.keep Kq48 (by simp)
    have fc54 := F44_varying.keep Kq48 (by simp)
    have fc55 := F44_selected.keep Kq48 (by simp)
    have fc56 := F44_anchored.keep Kq48 (by simp)
    have fc57 := F44_joined.keep Kq48 (by simp)
    have O48 := O44.keep Kq48 all0
    have K48 := K44.trans Kq48 (by intro x hx'; exact nomatch hx')
    have hk48 := Nat.le_trans hk44 Kq48.1
    show Gl p e below _ (T48.setTop (mkF m 252 #[.val (.long p1), .second, .val (.long p2), .second, .val (.int p3), .val (.int p4), .val (.ref b1), .val (.int (0 : Int32)), .val (.int (p3 &&& (3 : Int32))), .val (.int (12 : Int32)), .val (.ref b39), .unset, .unset, .unset] [(.ref r48), (.ref b44), (.ref b44)]))
    refine Gl.of (fun _ kq_ => XS.aload X48.here hx rfl (hb hby at_252) rfl rfl kq_) ?_
    refine Gl.of (fun _ kq_ => XS.aconstNull X48.here hx rfl (hb hby at_254) kq_) ?_
    refine Gl.of (fun _ kq_ => XS.iload X48.here hx rfl (hb hby at_255) rfl kq_) ?_
    have J270 : ∀ an : Int32, Gl p e below (GdH Z own_EL s (fun v h L => v = some (.int 1) ∧ Fr n0 L) 32 1216) (T48.setTop (mkF m 270 #[.val (.long p1), .second, .val (.long p2), .second, .val (.int p3), .val (.int p4), .val (.ref b1), .val (.int (0 : Int32)), .val (.int (p3 &&& (3 : Int32))), .val (.int (12 : Int32)), .val (.ref b39), .unset, .unset, .unset] [(.int an), (.int (12 : Int32)), .null, (.ref b39), (.ref r48), (.ref b44), (.ref b44)])) := by
      intro an
      refine Gl.of (fun _ kq_ => XS.iload X48.here hx rfl (hb hby at_270) rfl kq_) ?_
      refine Gl.callI X48 hx hZ (y := (⟨"com/example/rulr/rulr/policy/SqlCondition$Membership", "<init>", "(Ljava/lang/String;Ljava/lang/String;Lcom/example/rulr/rulr/policy/SqlCondition$Span;IZI)V"⟩ : MethodName)) rfl hown (w52 hw) (w53 hw) (w37 hw) (w54 hw) (desc_ne (by decide)) (rm := { frames := 2, cells := 0, slots := 0, locals := 25 }) (b := b44) (argsL := [(.ref r48), (.ref b39), .null, (.int (12 : Int32)), (.int an), (.int p4)]) (rest := [(.ref b44)]) (rmM l Z a0 hw _ b44 r48 b39 (12 : Int32) an p4 n0 ec51 fc52 fc53 fc54 fc55 fc56 fc57 Gb44 O48) 1 (by decide) (by decide) (by decide) (by decide) rfl (by rw [hml]; rfl) pd_15 rfl rfl (Nat.le_of_eq rfl) (hb hby at_272) ?_
      intro v58 T58 L58 X58 hQ58
      obtain ⟨rfl, Nq58, Kq58, Fq58, Fs58⟩ := hQ58
      have N58 := Fr.app N48 Nq58
      have vc59 := vc49.keep Kq58 (fun q => ne_b1_b44 (List.mem_singleton.mp q))
      have gc60 := gc50.keep Kq58 (fun q => ne_b39_b44 (List.mem_singleton.mp q)) (fun q => ne_t41_b44 (List.mem_singleton.mp q))
      have ec61 := ec51.keep Kq58
      have O58 := O48.keep Kq58 (allS Gb44 all0)
      have K58 := K48.trans Kq58 (by intro x hx'; cases List.mem_singleton.mp hx'; exact Or.inr Jb44)
      have hk58 := Nat.le_trans hk48 Kq58.1
      show Gl p e below _ (T58.setTop (mkF m 275 #[.val (.long p1), .second, .val (.long p2), .second, .val (.int p3), .val (.int p4), .val (.ref b1), .val (.int (0 : Int32)), .val (.int (p3 &&& (3 : Int32))), .val (.int (12 : Int32)), .val (.ref b39), .unset, .unset, .unset] [(.ref b44)]))
      refine Gl.of (fun _ kq_ => XS.astore X58.here hx rfl (hb hby at_275) rfl rfl (l' := #[.val (.long p1), .second, .val (.long p2), .second, .val (.int p3), .val (.int p4), .val (.ref b1), .val (.int (0 : Int32)), .val (.int (p3 &&& (3 : Int32))), .val (.int (12 : Int32)), .val (.ref b39), .val (.ref b44), .unset, .unset]) rfl kq_) ?_
      refine Gl.of (fun _ kq_ => XS.aload X58.here hx rfl (hb hby at_277) rfl rfl kq_) ?_
      have hRk := hR0.trans (CHr.keep K58 (fun x hx => nomatch hx) hR0.1)
      refine Gl.callV0 X58 hx hZ (y := (⟨"com/example/rulr/rulr/policy/SqlCondition$Membership", "condition", "()Ljava/lang/String;"⟩ : MethodName)) (z := (⟨"com/example/rulr/rulr/policy/SqlCondition$Membership", "condition", "()Ljava/lang/String;"⟩ : MethodName)) hown (w73 hw) (w74 hw) (notFace_of_selects (args := #[]) (mvT hZ (w76 hw))) (w76 hw) (w75 hw) (w77 hw) (w37 hw) (desc_ne (by decide)) (b := b44) (argsL := []) (rest := []) ec61 (rmCn l Z a0 hw _ b44 b39 t41 kb41 (nar .char c2_) (nar .char c5_) (nar .char c8_) (nar .char c11_) (nar .char c14_) (nar .char c17_) (nar .char c20_) (nar .char c23_) (nar .char c26_) (nar .char c29_) (nar .char c32_) (nar .char c35_) cz fm n0 Fq58 Fs58 gc60 fb41 SC hcz SF rf O58) 0 (by decide) (by decide) rfl (by rw [hml]; rfl) pd_16 rfl rfl (Nat.le_of_eq rfl) (hb hby at_279) (by decide) (by decide) ?_
      intro v62 T62 X62 e62 hv62
      subst hv62
      show Gl p e below _ (T62.setTop (mkF m 282 #[.val (.long p1), .second, .val (.long p2), .second, .val (.int p3), .val (.int p4), .val (.ref b1), .val (.int (0 : Int32)), .val (.int (p3 &&& (3 : Int32))), .val (.int (12 : Int32)), .val (.ref b39), .val (.ref b44), .unset, .unset] [.null]))
      refine Gl.of (fun _ kq_ => XS.astore X62.here hx rfl (hb hby at_282) rfl rfl (l' := #[.val (.long p1), .second, .val (.long p2), .second, .val (.int p3), .val (.int p4), .val (.ref b1), .val (.int (0 : Int32)), .val (.int (p3 &&& (3 : Int32))), .val (.int (12 : Int32)), .val (.ref b39), .val (.ref b44), .val .null, .unset]) rfl kq_) ?_
      refine Gl.of (fun _ kq_ => XS.iload X62.here hx rfl (hb hby at_284) rfl kq_) ?_
      refine Gl.of (fun _ kq_ => XS.ifNo X62.here hx rfl (hb hby at_286) rfl ((if0 _ _).trans (teq (by decide : (0 : Int32) = (0 : Int32))).2) kq_) ?_
      refine Gl.of (fun _ kq_ => XS.aload X62.here hx rfl (hb hby at_289) rfl rfl kq_) ?_
      refine Gl.of (fun _ kq_ => XS.ifnonnullNo X62.here hx rfl (hb hby at_291) rfl kq_) ?_
      refine Gl.of (fun _ kq_ => XS.iconst X62.here hx rfl (hb hby at_294) kq_) ?_
      show Gl p e below _ (T62.setTop (mkF m 295 #[.val (.long p1), .second, .val (.long p2), .second, .val (.int p3), .val (.int p4), .val (.ref b1), .val (.int (0 : Int32)), .val (.int (p3 &&& (3 : Int32))), .val (.int (12 : Int32)), .val (.ref b39), .val (.ref b44), .val .null, .unset] [(.int (1 : Int32))]))
      refine Gl.of (fun _ kq_ => XS.goto X62.here hx rfl (pc0 := 295) (pc' := 299) rfl (hb hby at_295) (by decide) (by decide) kq_) ?_
      exact Gl.retNH X62 hx hlk hret (by simp) (hb hby at_299) e62 (⟨rfl, N58⟩) hS0 hk58 hZ (own_el hw) hRk (by decide) (by decide)
    refine Gl.of (fun _ kq_ => XS.iload X48.here hx rfl (hb hby at_257) rfl kq_) ?_
    refine Gl.of (fun _ kq_ => XS.bipush X48.here hx rfl (hb hby at_259) kq_) ?_
    refine Gl.of (fun _ kq_ => XS.iand X48.here hx rfl (hb hby at_261) rfl kq_) ?_
    show Gl p e below _ (T48.setTop (mkF m 262 #[.val (.long p1), .second, .val (.long p2), .second, .val (.int p3), .val (.int p4), .val (.ref b1), .val (.int (0 : Int32)), .val (.int (p3 &&& (3 : Int32))), .val (.int (12 : Int32)), .val (.ref b39), .unset, .unset, .unset] [(.int (p3 &&& (8 : Int32))), (.int (12 : Int32)), .null, (.ref b39), (.ref r48), (.ref b44), (.ref b44)]))
    by_cases hc262_63 : (p3 &&& (8 : Int32)) = (0 : Int32)
    · refine Gl.of (fun _ kq_ => XS.ifYes X48.here hx rfl (pc0 := 262) (pc' := 269) rfl (hb hby at_262) rfl ((if0 _ _).trans (teq hc262_63).1) (by decide) (by decide) kq_) ?_
      refine Gl.of (fun _ kq_ => XS.iconst X48.here hx rfl (hb hby at_269) kq_) ?_
      show Gl p e below _ (T48.setTop (mkF m 270 #[.val (.long p1), .second, .val (.long p2), .second, .val (.int p3), .val (.int p4), .val (.ref b1), .val (.int (0 : Int32)), .val (.int (p3 &&& (3 : Int32))), .val (.int (12 : Int32)), .val (.ref b39), .unset, .unset, .unset] [(.int (0 : Int32)), (.int (12 : Int32)), .null, (.ref b39), (.ref r48), (.ref b44), (.ref b44)]))
      exact J270 _
    · refine Gl.of (fun _ kq_ => XS.ifNo X48.here hx rfl (hb hby at_262) rfl ((if0 _ _).trans (feq hc262_63).1) kq_) ?_
      refine Gl.of (fun _ kq_ => XS.iconst X48.here hx rfl (hb hby at_265) kq_) ?_
      refine Gl.of (fun _ kq_ => XS.goto X48.here hx rfl (pc0 := 266) (pc' := 270) rfl (hb hby at_266) (by decide) (by decide) kq_) ?_
      show Gl p e below _ (T48.setTop (mkF m 270 #[.val (.long p1), .second, .val (.long p2), .second, .val (.int p3), .val (.int p4), .val (.ref b1), .val (.int (0 : Int32)), .val (.int (p3 &&& (3 : Int32))), .val (.int (12 : Int32)), .val (.ref b39), .unset, .unset, .unset] [(.int (1 : Int32)), (.int (12 : Int32)), .null, (.ref b39), (.ref r48), (.ref b44), (.ref b44)]))
      exact J270 _
  · refine Gl.of (fun _ kq_ => XS.ifNo X37.here hx rfl (hb hby at_134) rfl ((if0 _ _).trans (feq hc134_38).1) kq_) ?_
    refine Gl.of (fun _ kq_ => XS.iconst X37.here hx rfl (hb hby at_137) kq_) ?_
    refine Gl.of (fun _ kq_ => XS.goto X37.here hx rfl (pc0 := 138) (pc' := 142) rfl (hb hby at_138) (by decide) (by decide) kq_) ?_
    show Gl p e below _ (T37.setTop (mkF m 142 #[.val (.long p1), .second, .val (.long p2), .second, .val (.int p3), .val (.int p4), .val (.ref b1), .unset, .unset, .unset, .unset, .unset, .unset, .unset] [(.int (1 : Int32))]))
    refine Gl.of (fun _ kq_ => XS.istore X37.here hx rfl (hb hby at_142) rfl (l' := #[.val (.long p1), .second, .val (.long p2), .second, .val (.int p3), .val (.int p4), .val (.ref b1), .val (.int (1 : Int32)), .unset, .unset, .unset, .unset, .unset, .unset]) rfl kq_) ?_
    refine Gl.of (fun _ kq_ => XS.iload X37.here hx rfl (hb hby at_144) rfl kq_) ?_
    refine Gl.of (fun _ kq_ => XS.iconst X37.here hx rfl (hb hby at_146) kq_) ?_
    refine Gl.of (fun _ kq_ => XS.iand X37.here hx rfl (hb hby at_147) rfl kq_) ?_
    refine Gl.of (fun _ kq_ => XS.istore X37.here hx rfl (hb hby at_148) rfl (l' := #[.val (.long p1), .second, .val (.long p2), .second, .val (.int p3), .val (.int p4), .val (.ref b1), .val (.int (1 : Int32)), .val (.int (p3 &&& (3 : Int32))), .unset, .unset, .unset, .unset, .unset]) rfl kq_) ?_
    refine Gl.of (fun _ kq_ => XS.iload X37.here hx rfl (hb hby at_150) rfl kq_) ?_
    show Gl p e below _ (T37.setTop (mkF m 152 #[.val (.long p1), .second, .val (.long p2), .second, .val (.int p3), .val (.int p4), .val (.ref b1), .val (.int (1 : Int32)), .val (.int (p3 &&& (3 : Int32))), .unset, .unset, .unset, .unset, .unset] [(.int (1 : Int32))]))
    refine Gl.of (fun _ kq_ => XS.ifNo X37.here hx rfl (hb hby at_152) rfl ((if0 _ _).trans (feq (by decide : ¬ ((1 : Int32) = (0 : Int32)))).1) kq_) ?_
    show Gl p e below _ (T37.setTop (mkF m 155 #[.val (.long p1), .second, .val (.long p2), .second, .val (.int p3), .val (.int p4), .val (.ref b1), .val (.int (1 : Int32)), .val (.int (p3 &&& (3 : Int32))), .unset, .unset, .unset, .unset, .unset] []))
    rcases own_q4 p3 with hq4 | hq4 | hq4 | hq4
    · rw [hq4]
      refine Gl.of (fun _ kq_ => XS.aload X37.here hx rfl (hb hby at_155) rfl rfl kq_) ?_
      refine Gl.of (fun _ kq_ => XS.iload X37.here hx rfl (hb hby at_157) rfl kq_) ?_
      refine Gl.of (fun _ kq_ => XS.bipush X37.here hx rfl (hb hby at_159) kq_) ?_
      obtain ⟨zcl64, zAr64, zq64, zS64, zM64, zH64, zG64⟩ := id V37
      obtain ⟨T65, h65, X65, e65, W65, st65⟩ := stC X37 hx hZ e37 zAr64 (j := (0 : Int32)) (inb_of zS64 ⟨by decide, by decide⟩) (g := (mkF m 161 #[.val (.long p1), .second, .val (.long p2), .second, .val (.int p3), .val (.int p4), .val (.ref b1), .val (.int (1 : Int32)), .val (.int (0 : Int32)), .unset, .unset, .unset, .unset, .unset] [(.int (32 : Int32)), (.int (0 : Int32)), (.ref b1)])) rfl rfl (hb hby at_161)
      refine Gl.of st65 ?_
      have V65 : Arv Z h65 b1 k1 .char (12 : Int32) [(.int (nar .char (32 : Int32))), (.int (nar .char c5_)), (.int (nar .char c8_)), (.int (nar .char c11_)), (.int (nar .char c14_)), (.int (nar .char c17_)), (.int (nar .char c20_)), (.int (nar .char c23_)), (.int (nar .char c26_)), (.int (nar .char c29_)), (.int (nar .char c32_)), (.int (nar .char c35_))] (.int (0 : Int32)) := Arv.set zAr64 zq64 zS64 zM64 zH64 zG64 (fits_nar_char _) W65 0 rfl (Nat.le_of_ble_eq_true rfl)
      have N65 := Fr.snoc X65 N37 Gb1
      have O65 := O37.wr W65 Gb1
      have K65 := K37.wr W65 (Or.inr Jb1)
      have hk65 := Nat.le_trans hk37 (Keep.of_wr W65).1
      show Gl p e below _ (T65.setTop (mkF m 162 #[.val (.long p1), .second, .val (.long p2), .second, .val (.int p3), .val (.int p4), .val (.ref b1), .val (.int (1 : Int32)), .val (.int (0 : Int32)), .unset, .unset, .unset, .unset, .unset] []))
      refine Gl.of (fun _ kq_ => XS.aload X65.here hx rfl (hb hby at_162) rfl rfl kq_) ?_
      refine Gl.of (fun _ kq_ => XS.iload X65.here hx rfl (hb hby at_164) rfl kq_) ?_
      refine Gl.of (fun _ kq_ => XS.iconst X65.here hx rfl (hb hby at_166) kq_) ?_
      refine Gl.of (fun _ kq_ => XS.iadd X65.here hx rfl (hb hby at_167) rfl kq_) ?_
      show Gl p e below _ (T65.setTop (mkF m 168 #[.val (.long p1), .second, .val (.long p2), .second, .val (.int p3), .val (.int p4), .val (.ref b1), .val (.int (1 : Int32)), .val (.int (0 : Int32)), .unset, .unset, .unset, .unset, .unset] [(.int (1 : Int32)), (.ref b1)]))
      refine Gl.of (fun _ kq_ => XS.bipush X65.here hx rfl (hb hby at_168) kq_) ?_
      obtain ⟨zcl66, zAr66, zq66, zS66, zM66, zH66, zG66⟩ := id V65
      obtain ⟨T67, h67, X67, e67, W67, st67⟩ := stC X65 hx hZ e65 zAr66 (j := (1 : Int32)) (inb_of zS66 ⟨by decide, by decide⟩) (g := (mkF m 170 #[.val (.long p1), .second, .val (.long p2), .second, .val (.int p3), .val (.int p4), .val (.ref b1), .val (.int (1 : Int32)), .val (.int (0 : Int32)), .unset, .unset, .unset, .unset, .unset] [(.int (87 : Int32)), (.int (1 : Int32)), (.ref b1)])) rfl rfl (hb hby at_170)
      refine Gl.of st67 ?_
      have V67 : Arv Z h67 b1 k1 .char (12 : Int32) [(.int (nar .char (32 : Int32))), (.int (nar .char (87 : Int32))), (.int (nar .char c8_)), (.int (nar .char c11_)), (.int (nar .char c14_)), (.int (nar .char c17_)), (.int (nar .char c20_)), (.int (nar .char c23_)), (.int (nar .char c26_)), (.int (nar .char c29_)), (.int (nar .char c32_)), (.int (nar .char c35_))] (.int (0 : Int32)) := Arv.set zAr66 zq66 zS66 zM66 zH66 zG66 (fits_nar_char _) W67 1 rfl (Nat.le_of_ble_eq_true rfl)
      have N67 := Fr.snoc X67 N65 Gb1
      have O67 := O65.wr W67 Gb1
      have K67 := K65.wr W67 (Or.inr Jb1)
      have hk67 := Nat.le_trans hk65 (Keep.of_wr W67).1
      show Gl p e below _ (T67.setTop (mkF m 171 #[.val (.long p1), .second, .val (.long p2), .second, .val (.int p3), .val (.int p4), .val (.ref b1), .val (.int (1 : Int32)), .val (.int (0 : Int32)), .unset, .unset, .unset, .unset, .unset] []))
      refine Gl.of (fun _ kq_ => XS.aload X67.here hx rfl (hb hby at_171) rfl rfl kq_) ?_
      refine Gl.of (fun _ kq_ => XS.iload X67.here hx rfl (hb hby at_173) rfl kq_) ?_
      refine Gl.of (fun _ kq_ => XS.iconst X67.here hx rfl (hb hby at_175) kq_) ?_
      refine Gl.of (fun _ kq_ => XS.iadd X67.here hx rfl (hb hby at_176) rfl kq_) ?_
      show Gl p e below _ (T67.setTop (mkF m 177 #[.val (.long p1), .second, .val (.long p2), .second, .val (.int p3), .val (.int p4), .val (.ref b1), .val (.int (1 : Int32)), .val (.int (0 : Int32)), .unset, .unset, .unset, .unset, .unset] [(.int (2 : Int32)), (.ref b1)]))
      refine Gl.of (fun _ kq_ => XS.bipush X67.here hx rfl (hb hby at_177) kq_) ?_
      obtain ⟨zcl68, zAr68, zq68, zS68, zM68, zH68, zG68⟩ := id V67
      obtain ⟨T69, h69, X69, e69, W69, st69⟩ := stC X67 hx hZ e67 zAr68 (j := (2 : Int32)) (inb_of zS68 ⟨by decide, by decide⟩) (g := (mkF m 179 #[.val (.long p1), .second, .val (.long p2), .second, .val (.int p3), .val (.int p4), .val (.ref b1), .val (.int (1 : Int32)), .val (.int (0 : Int32)), .unset, .unset, .unset, .unset, .unset] [(.int (72 : Int32)), (.int (2 : Int32)), (.ref b1)])) rfl rfl (hb hby at_179)
      refine Gl.of st69 ?_
      have V69 : Arv Z h69 b1 k1 .char (12 : Int32) [(.int (nar .char (32 : Int32))), (.int (nar .char (87 : Int32))), (.int (nar .char (72 : Int32))), (.int (nar .char c11_)), (.int (nar .char c14_)), (.int (nar .char c17_)), (.int (nar .char c20_)), (.int (nar .char c23_)), (.int (nar .char c26_)), (.int (nar .char c29_)), (.int (nar .char c32_)), (.int (nar .char c35_))] (.int (0 : Int32)) := Arv.set zAr68 zq68 zS68 zM68 zH68 zG68 (fits_nar_char _) W69 2 rfl (Nat.le_of_ble_eq_true rfl)
      have N69 := Fr.snoc X69 N67 Gb1
      have O69 := O67.wr W69 Gb1
      have K69 := K67.wr W69 (Or.inr Jb1)
      have hk69 := Nat.le_trans hk67 (Keep.of_wr W69).1
      show Gl p e below _ (T69.setTop (mkF m 180 #[.val (.long p1), .second, .val (.long p2), .second, .val (.int p3), .val (.int p4), .val (.ref b1), .val (.int (1 : Int32)), .val (.int (0 : Int32)), .unset, .unset, .unset, .unset, .unset] []))
      refine Gl.of (fun _ kq_ => XS.aload X69.here hx rfl (hb hby at_180) rfl rfl kq_) ?_
      refine Gl.of (fun _ kq_ => XS.iload X69.here hx rfl (hb hby at_182) rfl kq_) ?_
      refine Gl.of (fun _ kq_ => XS.iconst X69.here hx rfl (hb hby at_184) kq_) ?_
      refine Gl.of (fun _ kq_ => XS.iadd X69.here hx rfl (hb hby at_185) rfl kq_) ?_
      show Gl p e below _ (T69.setTop (mkF m 186 #[.val (.long p1), .second, .val (.long p2), .second, .val (.int p3), .val (.int p4), .val (.ref b1), .val (.int (1 : Int32)), .val (.int (0 : Int32)), .unset, .unset, .unset, .unset, .unset] [(.int (3 : Int32)), (.ref b1)]))
      refine Gl.of (fun _ kq_ => XS.bipush X69.here hx rfl (hb hby at_186) kq_) ?_
      obtain ⟨zcl70, zAr70, zq70, zS70, zM70, zH70, zG70⟩ := id V69
      obtain ⟨T71, h71, X71, e71, W71, st71⟩ := stC X69 hx hZ e69 zAr70 (j := (3 : Int32)) (inb_of zS70 ⟨by decide, by decide⟩) (g := (mkF m 188 #[.val (.long p1), .second, .val (.long p2), .second, .val (.int p3), .val (.int p4), .val (.ref b1), .val (.int (1 : Int32)), .val (.int (0 : Int32)), .unset, .unset, .unset, .unset, .unset] [(.int (69 : Int32)), (.int (3 : Int32)), (.ref b1)])) rfl rfl (hb hby at_188)
      refine Gl.of st71 ?_
      have V71 : Arv Z h71 b1 k1 .char (12 : Int32) [(.int (nar .char (32 : Int32))), (.int (nar .char (87 : Int32))), (.int (nar .char (72 : Int32))), (.int (nar .char (69 : Int32))), (.int (nar .char c14_)), (.int (nar .char c17_)), (.int (nar .char c20_)), (.int (nar .char c23_)), (.int (nar .char c26_)), (.int (nar .char c29_)), (.int (nar .char c32_)), (.int (nar .char c35_))] (.int (0 : Int32)) := Arv.set zAr70 zq70 zS70 zM70 zH70 zG70 (fits_nar_char _) W71 3 rfl (Nat.le_of_ble_eq_true rfl)
      have N71 := Fr.snoc X71 N69 Gb1
      have O71 := O69.wr W71 Gb1
      have K71 := K69.wr W71 (Or.inr Jb1)
      have hk71 := Nat.le_trans hk69 (Keep.of_wr W71).1
      show Gl p e below _ (T71.setTop (mkF m 189 #[.val (.long p1), .second, .val (.long p2), .second, .val (.int p3), .val (.int p4), .val (.ref b1), .val (.int (1 : Int32)), .val (.int (0 : Int32)), .unset, .unset, .unset, .unset, .unset] []))
      refine Gl.of (fun _ kq_ => XS.aload X71.here hx rfl (hb hby at_189) rfl rfl kq_) ?_
      refine Gl.of (fun _ kq_ => XS.iload X71.here hx rfl (hb hby at_191) rfl kq_) ?_
      refine Gl.of (fun _ kq_ => XS.iconst X71.here hx rfl (hb hby at_193) kq_) ?_
      refine Gl.of (fun _ kq_ => XS.iadd X71.here hx rfl (hb hby at_194) rfl kq_) ?_
      show Gl p e below _ (T71.setTop (mkF m 195 #[.val (.long p1), .second, .val (.long p2), .second, .val (.int p3), .val (.int p4), .val (.ref b1), .val (.int (1 : Int32)), .val (.int (0 : Int32)), .unset, .unset, .unset, .unset, .unset] [(.int (4 : Int32)), (.ref b1)]))
      refine Gl.of (fun _ kq_ => XS.bipush X71.here hx rfl (hb hby at_195) kq_) ?_
      obtain ⟨zcl72, zAr72, zq72, zS72, zM72, zH72, zG72⟩ := id V71
      obtain ⟨T73, h73, X73, e73, W73, st73⟩ := stC X71 hx hZ e71 zAr72 (j := (4 : Int32)) (inb_of zS72 ⟨by decide, by decide⟩) (g := (mkF m 197 #[.val (.long p1), .second, .val (.long p2), .second, .val (.int p3), .val (.int p4), .val (.ref b1), .val (.int (1 : Int32)), .val (.int (0 : Int32)), .unset, .unset, .unset, .unset, .unset] [(.int (82 : Int32)), (.int (4 : Int32)), (.ref b1)])) rfl rfl (hb hby at_197)
      refine Gl.of st73 ?_
      have V73 : Arv Z h73 b1 k1 .char (12 : Int32) [(.int (nar .char (32 : Int32))), (.int (nar .char (87 : Int32))), (.int (nar .char (72 : Int32))), (.int (nar .char (69 : Int32))), (.int (nar .char (82 : Int32))), (.int (nar .char c17_)), (.int (nar .char c20_)), (.int (nar .char c23_)), (.int (nar .char c26_)), (.int (nar .char c29_)), (.int (nar .char c32_)), (.int (nar .char c35_))] (.int (0 : Int32)) := Arv.set zAr72 zq72 zS72 zM72 zH72 zG72 (fits_nar_char _) W73 4 rfl (Nat.le_of_ble_eq_true rfl)
      have N73 := Fr.snoc X73 N71 Gb1
      have O73 := O71.wr W73 Gb1
      have K73 := K71.wr W73 (Or.inr Jb1)
      have hk73 := Nat.le_trans hk71 (Keep.of_wr W73).1
      show Gl p e below _ (T73.setTop (mkF m 198 #[.val (.long p1), .second, .val (.long p2), .second, .val (.int p3), .val (.int p4), .val (.ref b1), .val (.int (1 : Int32)), .val (.int (0 : Int32)), .unset, .unset, .unset, .unset, .unset] []))
      refine Gl.of (fun _ kq_ => XS.aload X73.here hx rfl (hb hby at_198) rfl rfl kq_) ?_
      refine Gl.of (fun _ kq_ => XS.iload X73.here hx rfl (hb hby at_200) rfl kq_) ?_
      refine Gl.of (fun _ kq_ => XS.iconst X73.here hx rfl (hb hby at_202) kq_) ?_
      refine Gl.of (fun _ kq_ => XS.iadd X73.here hx rfl (hb hby at_203) rfl kq_) ?_
      show Gl p e below _ (T73.setTop (mkF m 204 #[.val (.long p1), .second, .val (.long p2), .second, .val (.int p3), .val (.int p4), .val (.ref b1), .val (.int (1 : Int32)), .val (.int (0 : Int32)), .unset, .unset, .unset, .unset, .unset] [(.int (5 : Int32)), (.ref b1)]))
      refine Gl.of (fun _ kq_ => XS.bipush X73.here hx rfl (hb hby at_204) kq_) ?_
      obtain ⟨zcl74, zAr74, zq74, zS74, zM74, zH74, zG74⟩ := id V73
      obtain ⟨T75, h75, X75, e75, W75, st75⟩ := stC X73 hx hZ e73 zAr74 (j := (5 : Int32)) (inb_of zS74 ⟨by decide, by decide⟩) (g := (mkF m 206 #[.val (.long p1), .second, .val (.long p2), .second, .val (.int p3), .val (.int p4), .val (.ref b1), .val (.int (1 : Int32)), .val (.int (0 : Int32)), .unset, .unset, .unset, .unset, .unset] [(.int (69 : Int32)), (.int (5 : Int32)), (.ref b1)])) rfl rfl (hb hby at_206)
      refine Gl.of st75 ?_
      have V75 : Arv Z h75 b1 k1 .char (12 : Int32) [(.int (nar .char (32 : Int32))), (.int (nar .char (87 : Int32))), (.int (nar .char (72 : Int32))), (.int (nar .char (69 : Int32))), (.int (nar .char (82 : Int32))), (.int (nar .char (69 : Int32))), (.int (nar .char c20_)), (.int (nar .char c23_)), (.int (nar .char c26_)), (.int (nar .char c29_)), (.int (nar .char c32_)), (.int (nar .char c35_))] (.int (0 : Int32)) := Arv.set zAr74 zq74 zS74 zM74 zH74 zG74 (fits_nar_char _) W75 5 rfl (Nat.le_of_ble_eq_true rfl)
      have N75 := Fr.snoc X75 N73 Gb1
      have O75 := O73.wr W75 Gb1
      have K75 := K73.wr W75 (Or.inr Jb1)
      have hk75 := Nat.le_trans hk73 (Keep.of_wr W75).1
      show Gl p e below _ (T75.setTop (mkF m 207 #[.val (.long p1), .second, .val (.long p2), .second, .val (.int p3), .val (.int p4), .val (.ref b1), .val (.int (1 : Int32)), .val (.int (0 : Int32)), .unset, .unset, .unset, .unset, .unset] []))
      refine Gl.of (fun _ kq_ => XS.aload X75.here hx rfl (hb hby at_207) rfl rfl kq_) ?_
      refine Gl.of (fun _ kq_ => XS.iload X75.here hx rfl (hb hby at_209) rfl kq_) ?_
      refine Gl.of (fun _ kq_ => XS.bipush X75.here hx rfl (hb hby at_211) kq_) ?_
      refine Gl.of (fun _ kq_ => XS.iadd X75.here hx rfl (hb hby at_213) rfl kq_) ?_
      show Gl p e below _ (T75.setTop (mkF m 214 #[.val (.long p1), .second, .val (.long p2), .second, .val (.int p3), .val (.int p4), .val (.ref b1), .val (.int (1 : Int32)), .val (.int (0 : Int32)), .unset, .unset, .unset, .unset, .unset] [(.int (6 : Int32)), (.ref b1)]))
      refine Gl.of (fun _ kq_ => XS.bipush X75.here hx rfl (hb hby at_214) kq_) ?_
      obtain ⟨zcl76, zAr76, zq76, zS76, zM76, zH76, zG76⟩ := id V75
      obtain ⟨T77, h77, X77, e77, W77, st77⟩ := stC X75 hx hZ e75 zAr76 (j := (6 : Int32)) (inb_of zS76 ⟨by decide, by decide⟩) (g := (mkF m 216 #[.val (.long p1), .second, .val (.long p2), .second, .val (.int p3), .val (.int p4), .val (.ref b1), .val (.int (1 : Int32)), .val (.int (0 : Int32)), .unset, .unset, .unset, .unset, .unset] [(.int (32 : Int32)), (.int (6 : Int32)), (.ref b1)])) rfl rfl (hb hby at_216)
      refine Gl.of st77 ?_
      have V77 : Arv Z h77 b1 k1 .char (12 : Int32) [(.int (nar .char (32 : Int32))), (.int (nar .char (87 : Int32))), (.int (nar .char (72 : Int32))), (.int (nar .char (69 : Int32))), (.int (nar .char (82 : Int32))), (.int (nar .char (69 : Int32))), (.int (nar .char (32 : Int32))), (.int (nar .char c23_)), (.int (nar .char c26_)), (.int (nar .char c29_)), (.int (nar .char c32_)), (.int (nar .char c35_))] (.int (0 : Int32)) := Arv.set zAr76 zq76 zS76 zM76 zH76 zG76 (fits_nar_char _) W77 6 rfl (Nat.le_of_ble_eq_true rfl)
      have N77 := Fr.snoc X77 N75 Gb1
      have O77 := O75.wr W77 Gb1
      have K77 := K75.wr W77 (Or.inr Jb1)
      have hk77 := Nat.le_trans hk75 (Keep.of_wr W77).1
      show Gl p e below _ (T77.setTop (mkF m 217 #[.val (.long p1), .second, .val (.long p2), .second, .val (.int p3), .val (.int p4), .val (.ref b1), .val (.int (1 : Int32)), .val (.int (0 : Int32)), .unset, .unset, .unset, .unset, .unset] []))
      refine Gl.of (fun _ kq_ => XS.iload X77.here hx rfl (hb hby at_217) rfl kq_) ?_
      refine Gl.of (fun _ kq_ => XS.istore X77.here hx rfl (hb hby at_219) rfl (l' := #[.val (.long p1), .second, .val (.long p2), .second, .val (.int p3), .val (.int p4), .val (.ref b1), .val (.int (1 : Int32)), .val (.int (0 : Int32)), .val (.int (0 : Int32)), .unset, .unset, .unset, .unset]) rfl kq_) ?_
      refine Gl.of (fun _ kq_ => XS.goto X77.here hx rfl (pc0 := 221) (pc' := 228) rfl (hb hby at_221) (by decide) (by decide) kq_) ?_
      obtain ⟨T78, h78, X78, e78, E78, A78, D78, -, st78⟩ := newO X77 hx hZ hown (w6 hw) (w7 hw) (w8 hw) e77 (g := (mkF m 228 #[.val (.long p1), .second, .val (.long p2), .second, .val (.int p3), .val (.int p4), .val (.ref b1), .val (.int (1 : Int32)), .val (.int (0 : Int32)), .val (.int (0 : Int32)), .unset, .unset, .unset, .unset] [])) rfl (hb hby at_228) (by decide) (by decide)
      obtain ⟨b78, g78⟩ : ∃ z, z = h77.size := ⟨_, rfl⟩
      rw [← g78] at A78 D78 st78
      refine Gl.of st78 ?_
      have Gb78 : n0 ≤ b78 := Nat.le_trans (O77.1 ▸ O77.2.1) (Nat.le_of_eq g78.symm)
      have Jb78 : h0.size ≤ b78 := Nat.le_trans K77.1 (Nat.le_of_eq g78.symm)
      have ne_b1_b78 : b1 ≠ b78 := Nat.ne_of_lt (Nat.lt_of_lt_of_le V77.lt (Nat.le_of_eq g78.symm))
      have vc79 := V77.ext E78
      have O78 := O77.ext E78
      have K78 := K77.ext E78
      have hk78 := Nat.le_trans hk77 E78.1
      have F78_coder : Fld Z h78 b78 "java/lang/String" "coder" "B" (.int (0 : Int32)) := D78 (Or.inr (w32 hw)) (ty := .byte) (by decide)
      have F78_value : Fld Z h78 b78 "java/lang/String" "value" "[B" .null := D78 (Or.inr (w34 hw)) (ty := (.array .byte)) (by decide)
      show Gl p e below _ (T78.setTop (mkF m 231 #[.val (.long p1), .second, .val (.long p2), .second, .val (.int p3), .val (.int p4), .val (.ref b1), .val (.int (1 : Int32)), .val (.int (0 : Int32)), .val (.int (0 : Int32)), .unset, .unset, .unset, .unset] [(.ref b78)]))
      refine Gl.of (fun _ kq_ => XS.dup X78.here hx rfl (hb hby at_231) rfl rfl kq_) ?_
      refine Gl.of (fun _ kq_ => XS.aload X78.here hx rfl (hb hby at_232) rfl rfl kq_) ?_
      have hp80 : ∀ c ∈ ([(nar .char (32 : Int32)), (nar .char (87 : Int32)), (nar .char (72 : Int32)), (nar .char (69 : Int32)), (nar .char (82 : Int32)), (nar .char (69 : Int32)), (nar .char (32 : Int32)), (nar .char c23_), (nar .char c26_), (nar .char c29_), (nar .char c32_), (nar .char c35_)] : List Int32), ¬ c < 0 ∧ ¬ (255 : Int32) < c := own_cons (by decide) (own_cons (by decide) (own_cons (by decide) (own_cons (by decide) (own_cons (by decide) (own_cons (by decide) (own_cons (by decide) (own_cons (own_nr hc23_) (own_cons (own_nr hc26_) (own_cons (own_nr hc29_) (own_cons (own_nr hc32_) (own_cons (own_nr hc35_) (own_nil))))))))))))
      refine Gl.callIB X78 hx hZ (y := (⟨"java/lang/String", "<init>", "([C)V"⟩ : MethodName)) rfl hown (w9 hw) (w10 hw) (w11 hw) (desc_ne (by decide)) (C := 1) (N := 12) (W := 1) (own_QB Z b78 (12 : Int32) ((([(nar .char (32 : Int32)), (nar .char (87 : Int32)), (nar .char (72 : Int32)), (nar .char (69 : Int32)), (nar .char (82 : Int32)), (nar .char (69 : Int32)), (nar .char (32 : Int32)), (nar .char c23_), (nar .char c26_), (nar .char c29_), (nar .char c32_), (nar .char c35_)] : List Int32)).map (fun c => c.toInt8.toInt32)) h78 n0) (b := b78) (argsL := [(.ref b1)]) (rest := [(.ref b78)]) (own_backB (W := 1) hZ (own_ws hw) (kI := 4) (w7 hw) (cs := ([(nar .char (32 : Int32)), (nar .char (87 : Int32)), (nar .char (72 : Int32)), (nar .char (69 : Int32)), (nar .char (82 : Int32)), (nar .char (69 : Int32)), (nar .char (32 : Int32)), (nar .char c23_), (nar .char c26_), (nar .char c29_), (nar .char c32_), (nar .char c35_)] : List Int32)) (bs := (([(nar .char (32 : Int32)), (nar .char (87 : Int32)), (nar .char (72 : Int32)), (nar .char (69 : Int32)), (nar .char (82 : Int32)), (nar .char (69 : Int32)), (nar .char (32 : Int32)), (nar .char c23_), (nar .char c26_), (nar .char c29_), (nar .char c32_), (nar .char c35_)] : List Int32)).map (fun c => c.toInt8.toInt32)) (n := 12) Gb78 (O78.1 ▸ O78.2.1) A78 F78_value F78_coder vc79 (SC.ext O78.2) hcz rfl rfl (by decide) (by decide) hp80 rfl (by decide) (by decide)) (by decide) (by decide) e78 (by rw [hml]; rfl) pd_13 rfl rfl (Nat.le_of_eq rfl) (hb hby at_234) ?_
      intro v80 T80 L80 X80 hQ80
      obtain ⟨rfl, Nq80, Kq80, Eq80, Cq80, t80, kb80, Gt80, Ht80, nt80, Vq80, fb80, Bq80⟩ := hQ80
      have N80 := Fr.app N77 Nq80
      have Gt80 : n0 ≤ t80 := Gt80
      have ne_b1_t80 : b1 ≠ t80 := Nat.ne_of_lt (Nat.lt_of_lt_of_le vc79.lt Ht80)
      have ne_b78_t80 : b78 ≠ t80 := Nat.ne_of_lt (Nat.lt_of_lt_of_le A78.lt Ht80)
      have Jt80 : h0.size ≤ t80 := Nat.le_trans K78.1 Ht80
      have vc81 := vc79.keep Kq80 (fun q => ne_b1_b78 (List.mem_singleton.mp q))
      have ec82 := A78.keep Kq80
      have O80 := O78.keep Kq80 (allS Gb78 all0)
      have K80 := K78.trans Kq80 (by intro x hx'; cases List.mem_singleton.mp hx'; exact Or.inr Jb78)
      have hk80 := Nat.le_trans hk78 Kq80.1
      have SG80 : Strg Z T80.heap b78 t80 kb80 ([(nar .char (32 : Int32)), (nar .char (87 : Int32)), (nar .char (72 : Int32)), (nar .char (69 : Int32)), (nar .char (82 : Int32)), (nar .char (69 : Int32)), (nar .char (32 : Int32)), (nar .char c23_), (nar .char c26_), (nar .char c29_), (nar .char c32_), (nar .char c35_)] : List Int32) := ⟨Eq80, Vq80, Cq80, Bq80, hp80, Nat.le_of_ble_eq_true rfl⟩
      show Gl p e below _ (T80.setTop (mkF m 237 #[.val (.long p1), .second, .val (.long p2), .second, .val (.int p3), .val (.int p4), .val (.ref b1), .val (.int (1 : Int32)), .val (.int (0 : Int32)), .val (.int (0 : Int32)), .unset, .unset, .unset, .unset] [(.ref b78)]))
      refine Gl.of (fun _ kq_ => XS.astore X80.here hx rfl (hb hby at_237) rfl rfl (l' := #[.val (.long p1), .second, .val (.long p2), .second, .val (.int p3), .val (.int p4), .val (.ref b1), .val (.int (1 : Int32)), .val (.int (0 : Int32)), .val (.int (0 : Int32)), .val (.ref b78), .unset, .unset, .unset]) rfl kq_) ?_
      obtain ⟨T83, h83, X83, e83, E83, A83, D83, -, st83⟩ := newO X80 hx hZ hown (w35 hw) (w36 hw) (w37 hw) rfl (g := (mkF m 239 #[.val (.long p1), .second, .val (.long p2), .second, .val (.int p3), .val (.int p4), .val (.ref b1), .val (.int (1 : Int32)), .val (.int (0 : Int32)), .val (.int (0 : Int32)), .val (.ref b78), .unset, .unset, .unset] [])) rfl (hb hby at_239) (by decide) (by decide)
      obtain ⟨b83, g83⟩ : ∃ z, z = T80.heap.size := ⟨_, rfl⟩
      rw [← g83] at A83 D83 st83
      refine Gl.of st83 ?_
      have Gb83 : n0 ≤ b83 := Nat.le_trans (O80.1 ▸ O80.2.1) (Nat.le_of_eq g83.symm)
      have Jb83 : h0.size ≤ b83 := Nat.le_trans K80.1 (Nat.le_of_eq g83.symm)
      have ne_b1_b83 : b1 ≠ b83 := Nat.ne_of_lt (Nat.lt_of_lt_of_le vc81.lt (Nat.le_of_eq g83.symm))
      have ne_b78_b83 : b78 ≠ b83 := Nat.ne_of_lt (Nat.lt_of_lt_of_le SG80.lt (Nat.le_of_eq g83.symm))
      have ne_t80_b83 : t80 ≠ b83 := Nat.ne_of_lt (Nat.lt_of_lt_of_le SG80.lt' (Nat.le_of_eq g83.symm))
      have vc84 := vc81.ext E83
      have gc85 := SG80.ext E83
      have O83 := O80.ext E83
      have K83 := K80.ext E83
      have hk83 := Nat.le_trans hk80 E83.1
      have F83_column : Fld Z h83 b83 "com/example/rulr/rulr/policy/SqlCondition$Membership" "column" "Ljava/lang/String;" .null := D83 (Or.inr (w62 hw)) (ty := (.object "java/lang/String")) (by decide)
      have F83_query : Fld Z h83 b83 "com/example/rulr/rulr/policy/SqlCondition$Membership" "query" "Ljava/lang/String;" .null := D83 (Or.inr (w64 hw)) (ty := (.object "java/lang/String")) (by decide)
      have F83_varying : Fld Z h83 b83 "com/example/rulr/rulr/policy/SqlCondition$Membership" "varying" "Lcom/example/rulr/rulr/policy/SqlCondition$Span;" .null := D83 (Or.inr (w66 hw)) (ty := (.object "com/example/rulr/rulr/policy/SqlCondition$Span")) (by decide)
      have F83_selected : Fld Z h83 b83 "com/example/rulr/rulr/policy/SqlCondition$Membership" "selected" "I" (.int (0 : Int32)) := D83 (Or.inr (w68 hw)) (ty := .int) (by decide)
      have F83_anchored : Fld Z h83 b83 "com/example/rulr/rulr/policy/SqlCondition$Membership" "anchored" "Z" (.int (0 : Int32)) := D83 (Or.inr (w70 hw)) (ty := .boolean) (by decide)
      have F83_joined : Fld Z h83 b83 "com/example/rulr/rulr/policy/SqlCondition$Membership" "joined" "I" (.int (0 : Int32)) := D83 (Or.inr (w72 hw)) (ty := .int) (by decide)
      show Gl p e below _ (T83.setTop (mkF m 242 #[.val (.long p1), .second, .val (.long p2), .second, .val (.int p3), .val (.int p4), .val (.ref b1), .val (.int (1 : Int32)), .val (.int (0 : Int32)), .val (.int (0 : Int32)), .val (.ref b78), .unset, .unset, .unset] [(.ref b83)]))
      refine Gl.of (fun _ kq_ => XS.dup X83.here hx rfl (hb hby at_242) rfl rfl kq_) ?_
      refine Gl.of (fun _ kq_ => XS.lloadN X83.here hx rfl (hb hby at_243) rfl kq_) ?_
      refine Gl.of (fun _ kq_ => XS.bipush X83.here hx rfl (hb hby at_244) kq_) ?_
      refine Gl.callS0 X83 hx hZ (y := (⟨"com/example/rulr/rulr/policy/MembershipConditionPinLaw", "ch", "(JI)C"⟩ : MethodName)) hown (w1 hw) (w2 hw) (w3 hw) (w4 hw) (desc_ne (by decide)) (argsL := [(.long p2), (.int (32 : Int32))]) (rest := [(.ref b83), (.ref b83)]) (rmH l Z a0 hw _ p2 (32 : Int32)) 2 (by decide) (by decide) e83 (by rw [hml]; rfl) pd_12 rfl rfl (Nat.le_of_eq rfl) (hb hby at_246) (by decide) (by decide) ?_
      intro v86 T86 X86 e86 hv86
      obtain ⟨c86_, rfl, hc86_⟩ := hv86
      show Gl p e below _ (T86.setTop (mkF m 249 #[.val (.long p1), .second, .val (.long p2), .second, .val (.int p3), .val (.int p4), .val (.ref b1), .val (.int (1 : Int32)), .val (.int (0 : Int32)), .val (.int (0 : Int32)), .val (.ref b78), .unset, .unset, .unset] [(.int c86_), (.ref b83), (.ref b83)]))
      refine Gl.callS X86 hx hZ (y := (⟨"java/lang/String", "valueOf", "(C)Ljava/lang/String;"⟩ : MethodName)) hown (w38 hw) (w39 hw) (w8 hw) (w40 hw) (desc_ne (by decide)) (rm := { frames := 2, cells := 2, slots := 5, locals := 33 }) (argsL := [(.int c86_)]) (rest := [(.ref b83), (.ref b83)]) (rmV l Z a0 hw _ c86_ cz n0 hc86_ SC hcz O83) 2 (by decide) (by decide) (by decide) (by decide) e86 (by rw [hml]; rfl) pd_14 rfl rfl (Nat.le_of_eq rfl) (hb hby at_249) ?_
      intro v87 T87 L87 X87 hQ87
      obtain ⟨r87, rfl, Kq87, Nq87⟩ := hQ87
      have N87 := Fr.app N80 Nq87
      have vc88 := vc84.keep Kq87 (by simp)
      have gc89 := gc85.keep Kq87 (by simp) (by simp)
      have ec90 := A83.keep Kq87
      have fc91 := F83_column.keep Kq87 (by simp)
      have fc92 := F83_query.keep Kq87 (by simp)
      have fc93 := F83_varying.keep Kq87 (by simp)
      have fc94 := F83_selected.keep Kq87 (by simp)
      have fc95 := F83_anchored.keep Kq87 (by simp)
      have fc96 := F83_joined.keep Kq87 (by simp)
      have O87 := O83.keep Kq87 all0
      have K87 := K83.trans Kq87 (by intro x hx'; exact nomatch hx')
      have hk87 := Nat.le_trans hk83 Kq87.1
      show Gl p e below _ (T87.setTop (mkF m 252 #[.val (.long p1), .second, .val (.long p2), .second, .val (.int p3), .val (.int p4), .val (.ref b1), .val (.int (1 : Int32)), .val (.int (0 : Int32)), .val (.int (0 : Int32)), .val (.ref b78), .unset, .unset, .unset] [(.ref r87), (.ref b83), (.ref b83)]))
      refine Gl.of (fun _ kq_ => XS.aload X87.here hx rfl (hb hby at_252) rfl rfl kq_) ?_
      refine Gl.of (fun _ kq_ => XS.aconstNull X87.here hx rfl (hb hby at_254) kq_) ?_
      refine Gl.of (fun _ kq_ => XS.iload X87.here hx rfl (hb hby at_255) rfl kq_) ?_
      have J270 : ∀ an : Int32, Gl p e below (GdH Z own_EL s (fun v h L => v = some (.int 1) ∧ Fr n0 L) 32 1216) (T87.setTop (mkF m 270 #[.val (.long p1), .second, .val (.long p2), .second, .val (.int p3), .val (.int p4), .val (.ref b1), .val (.int (1 : Int32)), .val (.int (0 : Int32)), .val (.int (0 : Int32)), .val (.ref b78), .unset, .unset, .unset] [(.int an), (.int (0 : Int32)), .null, (.ref b78), (.ref r87), (.ref b83), (.ref b83)])) := by
        intro an
        refine Gl.of (fun _ kq_ => XS.iload X87.here hx rfl (hb hby at_270) rfl kq_) ?_
        refine Gl.callI X87 hx hZ (y := (⟨"com/example/rulr/rulr/policy/SqlCondition$Membership", "<init>", "(Ljava/lang/String;Ljava/lang/String;Lcom/example/rulr/rulr/policy/SqlCondition$Span;IZI)V"⟩ : MethodName)) rfl hown (w52 hw) (w53 hw) (w37 hw) (w54 hw) (desc_ne (by decide)) (rm := { frames := 2, cells := 0, slots := 0, locals := 25 }) (b := b83) (argsL := [(.ref r87), (.ref b78), .null, (.int (0 : Int32)), (.int an), (.int p4)]) (rest := [(.ref b83)]) (rmM l Z a0 hw _ b83 r87 b78 (0 : Int32) an p4 n0 ec90 fc91 fc92 fc93 fc94 fc95 fc96 Gb83 O87) 1 (by decide) (by decide) (by decide) (by decide) rfl (by rw [hml]; rfl) pd_15 rfl rfl (Nat.le_of_eq rfl) (hb hby at_272) ?_
        intro v97 T97 L97 X97 hQ97
        obtain ⟨rfl, Nq97, Kq97, Fq97, Fs97⟩ := hQ97
        have N97 := Fr.app N87 Nq97
        have vc98 := vc88.keep Kq97 (fun q => ne_b1_b83 (List.mem_singleton.mp q))
        have gc99 := gc89.keep Kq97 (fun q => ne_b78_b83 (List.mem_singleton.mp q)) (fun q => ne_t80_b83 (List.mem_singleton.mp q))
        have ec100 := ec90.keep Kq97
        have O97 := O87.keep Kq97 (allS Gb83 all0)
        have K97 := K87.trans Kq97 (by intro x hx'; cases List.mem_singleton.mp hx'; exact Or.inr Jb83)
        have hk97 := Nat.le_trans hk87 Kq97.1
        show Gl p e below _ (T97.setTop (mkF m 275 #[.val (.long p1), .second, .val (.long p2), .second, .val (.int p3), .val (.int p4), .val (.ref b1), .val (.int (1 : Int32)), .val (.int (0 : Int32)), .val (.int (0 : Int32)), .val (.ref b78), .unset, .unset, .unset] [(.ref b83)]))
        refine Gl.of (fun _ kq_ => XS.astore X97.here hx rfl (hb hby at_275) rfl rfl (l' := #[.val (.long p1), .second, .val (.long p2), .second, .val (.int p3), .val (.int p4), .val (.ref b1), .val (.int (1 : Int32)), .val (.int (0 : Int32)), .val (.int (0 : Int32)), .val (.ref b78), .val (.ref b83), .unset, .unset]) rfl kq_) ?_
        refine Gl.of (fun _ kq_ => XS.aload X97.here hx rfl (hb hby at_277) rfl rfl kq_) ?_
        have hRk := hR0.trans (CHr.keep K97 (fun x hx => nomatch hx) hR0.1)
        refine Gl.callVH X97 hx hZ hS0 hk97 (own_el hw) hRk (y := (⟨"com/example/rulr/rulr/policy/SqlCondition$Membership", "condition", "()Ljava/lang/String;"⟩ : MethodName)) (z := (⟨"com/example/rulr/rulr/policy/SqlCondition$Membership", "condition", "()Ljava/lang/String;"⟩ : MethodName)) hown (w73 hw) (w74 hw) (notFace_of_selects (args := #[]) (mvT hZ (w76 hw))) (w76 hw) (w75 hw) (w77 hw) (w37 hw) (desc_ne (by decide)) (rm := { frames := 7, cells := 4, slots := 48, locals := 145 }) (b := b83) (argsL := []) (rest := []) ec100 (rmC0 l Z a0 hw _ b83 b78 t80 kb80 (nar .char (32 : Int32)) (nar .char (87 : Int32)) (nar .char (72 : Int32)) (nar .char (69 : Int32)) (nar .char (82 : Int32)) (nar .char (69 : Int32)) (nar .char (32 : Int32)) (nar .char c23_) (nar .char c26_) (nar .char c29_) (nar .char c32_) (nar .char c35_) cz fm n0 Fq97 Fs97 gc99 fb80 SC hcz SF rf O97) 0 (by decide) (by decide) (by decide) (by decide) rfl (by rw [hml]; rfl) pd_16 rfl rfl (Nat.le_of_eq rfl) (hb hby at_279) ?_
        intro v101 T101 L101 X101 hS101 hZ hown hQ101 hR101
        obtain ⟨r101, t101, kb101, rfl, SG101, Kq101, Nq101⟩ := hQ101
        have N101 := Fr.app N97 Nq101
        have vc102 := vc98.keep Kq101 (by simp)
        have gc103 := gc99.keep Kq101 (by simp) (by simp)
        have ec104 := ec100.keep Kq101
        have fc105 := Fq97.keep Kq101 (by simp)
        have fc106 := Fs97.keep Kq101 (by simp)
        have O101 := O97.keep Kq101 all0
        have K101 := K97.trans Kq101 (by intro x hx'; exact nomatch hx')
        have hk101 := Nat.le_trans hk97 Kq101.1
        show Gl p e below _ (T101.setTop (mkF m 282 #[.val (.long p1), .second, .val (.long p2), .second, .val (.int p3), .val (.int p4), .val (.ref b1), .val (.int (1 : Int32)), .val (.int (0 : Int32)), .val (.int (0 : Int32)), .val (.ref b78), .val (.ref b83), .unset, .unset] [(.ref r101)]))
        refine Gl.of (fun _ kq_ => XS.astore X101.here hx rfl (hb hby at_282) rfl rfl (l' := #[.val (.long p1), .second, .val (.long p2), .second, .val (.int p3), .val (.int p4), .val (.ref b1), .val (.int (1 : Int32)), .val (.int (0 : Int32)), .val (.int (0 : Int32)), .val (.ref b78), .val (.ref b83), .val (.ref r101), .unset]) rfl kq_) ?_
        refine Gl.of (fun _ kq_ => XS.iload X101.here hx rfl (hb hby at_284) rfl kq_) ?_
        refine Gl.of (fun _ kq_ => XS.ifYes X101.here hx rfl (pc0 := 286) (pc' := 300) rfl (hb hby at_286) rfl ((if0 _ _).trans (feq (by decide : ¬ ((1 : Int32) = (0 : Int32)))).2) (by decide) (by decide) kq_) ?_
        refine Gl.of (fun _ kq_ => XS.aload X101.here hx rfl (hb hby at_300) rfl rfl kq_) ?_
        refine Gl.of (fun _ kq_ => XS.ifnonnullYes X101.here hx rfl (pc0 := 302) (pc' := 307) rfl (hb hby at_302) rfl (by decide) (by decide) kq_) ?_
        refine Gl.of (fun _ kq_ => XS.iconst X101.here hx rfl (hb hby at_307) kq_) ?_
        show Gl p e below _ (T101.setTop (mkF m 308 #[.val (.long p1), .second, .val (.long p2), .second, .val (.int p3), .val (.int p4), .val (.ref b1), .val (.int (1 : Int32)), .val (.int (0 : Int32)), .val (.int (0 : Int32)), .val (.ref b78), .val (.ref b83), .val (.ref r101), .unset] [(.int (5 : Int32))]))
        refine Gl.of (fun _ kq_ => XS.iload X101.here hx rfl (hb hby at_308) rfl kq_) ?_
        refine Gl.of (fun _ kq_ => XS.isub X101.here hx rfl (hb hby at_310) rfl kq_) ?_
        show Gl p e below _ (T101.setTop (mkF m 311 #[.val (.long p1), .second, .val (.long p2), .second, .val (.int p3), .val (.int p4), .val (.ref b1), .val (.int (1 : Int32)), .val (.int (0 : Int32)), .val (.int (0 : Int32)), .val (.ref b78), .val (.ref b83), .val (.ref r101), .unset] [(.int (5 : Int32))]))
        refine Gl.of (fun _ kq_ => XS.istore X101.here hx rfl (hb hby at_311) rfl (l' := #[.val (.long p1), .second, .val (.long p2), .second, .val (.int p3), .val (.int p4), .val (.ref b1), .val (.int (1 : Int32)), .val (.int (0 : Int32)), .val (.int (0 : Int32)), .val (.ref b78), .val (.ref b83), .val (.ref r101), .val (.int (5 : Int32))]) rfl kq_) ?_
        refine Gl.of (fun _ kq_ => XS.aload X101.here hx rfl (hb hby at_313) rfl rfl kq_) ?_
        refine Gl.callVB X101 hx hZ (y := (⟨"java/lang/String", "length", "()I"⟩ : MethodName)) (z := (⟨"java/lang/String", "length", "()I"⟩ : MethodName)) hown (w138 hw) (w79 hw) (notFace_of_selects (args := #[]) (mvT hZ (w81 hw))) (w81 hw) (w80 hw) (desc_ne (by decide)) (W := 0) (fun v => v = some (.int (5 : Int32))) (b := r101) (argsL := []) (rest := []) SG101.1 (StrChars.Road.lenW (W := 0) hZ (own_wln hw) (kI := 4) (w7 hw) SG101.1 SG101.2.1 SG101.2.2.1 SG101.2.2.2.1 SG101.cod SG101.up (SC.ext O101.2) hcz SG101.2.2.2.2.2 (by decide) (by decide)) (by decide) (by decide) rfl (by rw [hml]; rfl) pd_5 rfl rfl (Nat.le_of_eq rfl) (hb hby at_315) ?_
        intro v107 T107 X107 e107 hv107
        subst hv107
        show Gl p e below _ (T107.setTop (mkF m 318 #[.val (.long p1), .second, .val (.long p2), .second, .val (.int p3), .val (.int p4), .val (.ref b1), .val (.int (1 : Int32)), .val (.int (0 : Int32)), .val (.int (0 : Int32)), .val (.ref b78), .val (.ref b83), .val (.ref r101), .val (.int (5 : Int32))] [(.int (5 : Int32))]))
        refine Gl.of (fun _ kq_ => XS.iload X107.here hx rfl (hb hby at_318) rfl kq_) ?_
        refine Gl.of (fun _ kq_ => XS.icmpNo X107.here hx rfl (hb hby at_320) rfl (teq (by decide : (5 : Int32) = (5 : Int32))).2 kq_) ?_
        refine Gl.of (fun _ kq_ => XS.aload X107.here hx rfl (hb hby at_323) rfl rfl kq_) ?_
        refine Gl.of (fun _ kq_ => XS.aload X107.here hx rfl (hb hby at_325) rfl rfl kq_) ?_
        refine Gl.of (fun _ kq_ => XS.iconst X107.here hx rfl (hb hby at_327) kq_) ?_
        refine Gl.of (fun _ kq_ => XS.iload X107.here hx rfl (hb hby at_328) rfl kq_) ?_
        show Gl p e below _ (T107.setTop (mkF m 330 #[.val (.long p1), .second, .val (.long p2), .second, .val (.int p3), .val (.int p4), .val (.ref b1), .val (.int (1 : Int32)), .val (.int (0 : Int32)), .val (.int (0 : Int32)), .val (.ref b78), .val (.ref b83), .val (.ref r101), .val (.int (5 : Int32))] [(.int (0 : Int32)), (.int (0 : Int32)), (.ref b1), (.ref r101)]))
        refine Gl.callS0 X107 hx hZ (y := (⟨"com/example/rulr/rulr/policy/MembershipConditionPinLaw", "at", "(Ljava/lang/String;[CII)Z"⟩ : MethodName)) hown (w139 hw) (w140 hw) (w3 hw) (w141 hw) (desc_ne (by decide)) (argsL := [(.ref r101), (.ref b1), (.int (0 : Int32)), (.int (0 : Int32))]) (rest := []) (rmA00 l Z a0 hw _ r101 t101 b1 kb101 k1 (nar .char (32 : Int32)) (nar .char (87 : Int32)) (nar .char (72 : Int32)) (nar .char (69 : Int32)) (nar .char (82 : Int32)) (nar .char (69 : Int32)) (nar .char (32 : Int32)) (nar .char c23_) (nar .char c26_) (nar .char c29_) (nar .char c32_) (nar .char c35_) cz fm n0 SG101 vc102 SC hcz SF rf O101) 0 (by decide) (by decide) e107 (by rw [hml]; rfl) pd_17 rfl rfl (Nat.le_of_eq rfl) (hb hby at_330) (by decide) (by decide) ?_
        intro v108 T108 X108 e108 hv108
        subst hv108
        show Gl p e below _ (T108.setTop (mkF m 333 #[.val (.long p1), .second, .val (.long p2), .second, .val (.int p3), .val (.int p4), .val (.ref b1), .val (.int (1 : Int32)), .val (.int (0 : Int32)), .val (.int (0 : Int32)), .val (.ref b78), .val (.ref b83), .val (.ref r101), .val (.int (5 : Int32))] [(.int (1 : Int32))]))
        refine Gl.of (fun _ kq_ => XS.ifNo X108.here hx rfl (hb hby at_333) rfl ((if0 _ _).trans (feq (by decide : ¬ ((1 : Int32) = (0 : Int32)))).1) kq_) ?_
        refine Gl.of (fun _ kq_ => XS.aload X108.here hx rfl (hb hby at_336) rfl rfl kq_) ?_
        refine Gl.of (fun _ kq_ => XS.aload X108.here hx rfl (hb hby at_338) rfl rfl kq_) ?_
        refine Gl.of (fun _ kq_ => XS.iconst X108.here hx rfl (hb hby at_340) kq_) ?_
        refine Gl.of (fun _ kq_ => XS.iload X108.here hx rfl (hb hby at_341) rfl kq_) ?_
        refine Gl.callS0 X108 hx hZ (y := (⟨"com/example/rulr/rulr/policy/MembershipConditionPinLaw", "at", "(Ljava/lang/String;[CII)Z"⟩ : MethodName)) hown (w139 hw) (w140 hw) (w3 hw) (w141 hw) (desc_ne (by decide)) (argsL := [(.ref r101), (.ref b1), (.int (1 : Int32)), (.int (0 : Int32))]) (rest := []) (rmA01 l Z a0 hw _ r101 t101 b1 kb101 k1 (nar .char (32 : Int32)) (nar .char (87 : Int32)) (nar .char (72 : Int32)) (nar .char (69 : Int32)) (nar .char (82 : Int32)) (nar .char (69 : Int32)) (nar .char (32 : Int32)) (nar .char c23_) (nar .char c26_) (nar .char c29_) (nar .char c32_) (nar .char c35_) cz fm n0 SG101 vc102 SC hcz SF rf O101) 0 (by decide) (by decide) e108 (by rw [hml]; rfl) pd_17 rfl rfl (Nat.le_of_eq rfl) (hb hby at_343) (by decide) (by decide) ?_
        intro v109 T109 X109 e109 hv109
        subst hv109
        show Gl p e below _ (T109.setTop (mkF m 346 #[.val (.long p1), .second, .val (.long p2), .second, .val (.int p3), .val (.int p4), .val (.ref b1), .val (.int (1 : Int32)), .val (.int (0 : Int32)), .val (.int (0 : Int32)), .val (.ref b78), .val (.ref b83), .val (.ref r101), .val (.int (5 : Int32))] [(.int (1 : Int32))]))
        refine Gl.of (fun _ kq_ => XS.ifNo X109.here hx rfl (hb hby at_346) rfl ((if0 _ _).trans (feq (by decide : ¬ ((1 : Int32) = (0 : Int32)))).1) kq_) ?_
        refine Gl.of (fun _ kq_ => XS.aload X109.here hx rfl (hb hby at_349) rfl rfl kq_) ?_
        refine Gl.of (fun _ kq_ => XS.aload X109.here hx rfl (hb hby at_351) rfl rfl kq_) ?_
        refine Gl.of (fun _ kq_ => XS.iconst X109.here hx rfl (hb hby at_353) kq_) ?_
        refine Gl.of (fun _ kq_ => XS.iload X109.here hx rfl (hb hby at_354) rfl kq_) ?_
        refine Gl.callS0 X109 hx hZ (y := (⟨"com/example/rulr/rulr/policy/MembershipConditionPinLaw", "at", "(Ljava/lang/String;[CII)Z"⟩ : MethodName)) hown (w139 hw) (w140 hw) (w3 hw) (w141 hw) (desc_ne (by decide)) (argsL := [(.ref r101), (.ref b1), (.int (2 : Int32)), (.int (0 : Int32))]) (rest := []) (rmA02 l Z a0 hw _ r101 t101 b1 kb101 k1 (nar .char (32 : Int32)) (nar .char (87 : Int32)) (nar .char (72 : Int32)) (nar .char (69 : Int32)) (nar .char (82 : Int32)) (nar .char (69 : Int32)) (nar .char (32 : Int32)) (nar .char c23_) (nar .char c26_) (nar .char c29_) (nar .char c32_) (nar .char c35_) cz fm n0 SG101 vc102 SC hcz SF rf O101) 0 (by decide) (by decide) e109 (by rw [hml]; rfl) pd_17 rfl rfl (Nat.le_of_eq rfl) (hb hby at_356) (by decide) (by decide) ?_
        intro v110 T110 X110 e110 hv110
        subst hv110
        show Gl p e below _ (T110.setTop (mkF m 359 #[.val (.long p1), .second, .val (.long p2), .second, .val (.int p3), .val (.int p4), .val (.ref b1), .val (.int (1 : Int32)), .val (.int (0 : Int32)), .val (.int (0 : Int32)), .val (.ref b78), .val (.ref b83), .val (.ref r101), .val (.int (5 : Int32))] [(.int (1 : Int32))]))
        refine Gl.of (fun _ kq_ => XS.ifNo X110.here hx rfl (hb hby at_359) rfl ((if0 _ _).trans (feq (by decide : ¬ ((1 : Int32) = (0 : Int32)))).1) kq_) ?_
        refine Gl.of (fun _ kq_ => XS.aload X110.here hx rfl (hb hby at_362) rfl rfl kq_) ?_
        refine Gl.of (fun _ kq_ => XS.aload X110.here hx rfl (hb hby at_364) rfl rfl kq_) ?_
        refine Gl.of (fun _ kq_ => XS.iconst X110.here hx rfl (hb hby at_366) kq_) ?_
        refine Gl.of (fun _ kq_ => XS.iload X110.here hx rfl (hb hby at_367) rfl kq_) ?_
        refine Gl.callS0 X110 hx hZ (y := (⟨"com/example/rulr/rulr/policy/MembershipConditionPinLaw", "at", "(Ljava/lang/String;[CII)Z"⟩ : MethodName)) hown (w139 hw) (w140 hw) (w3 hw) (w141 hw) (desc_ne (by decide)) (argsL := [(.ref r101), (.ref b1), (.int (3 : Int32)), (.int (0 : Int32))]) (rest := []) (rmA03 l Z a0 hw _ r101 t101 b1 kb101 k1 (nar .char (32 : Int32)) (nar .char (87 : Int32)) (nar .char (72 : Int32)) (nar .char (69 : Int32)) (nar .char (82 : Int32)) (nar .char (69 : Int32)) (nar .char (32 : Int32)) (nar .char c23_) (nar .char c26_) (nar .char c29_) (nar .char c32_) (nar .char c35_) cz fm n0 SG101 vc102 SC hcz SF rf O101) 0 (by decide) (by decide) e110 (by rw [hml]; rfl) pd_17 rfl rfl (Nat.le_of_eq rfl) (hb hby at_369) (by decide) (by decide) ?_
        intro v111 T111 X111 e111 hv111
        subst hv111
        show Gl p e below _ (T111.setTop (mkF m 372 #[.val (.long p1), .second, .val (.long p2), .second, .val (.int p3), .val (.int p4), .val (.ref b1), .val (.int (1 : Int32)), .val (.int (0 : Int32)), .val (.int (0 : Int32)), .val (.ref b78), .val (.ref b83), .val (.ref r101), .val (.int (5 : Int32))] [(.int (1 : Int32))]))
        refine Gl.of (fun _ kq_ => XS.ifNo X111.here hx rfl (hb hby at_372) rfl ((if0 _ _).trans (feq (by decide : ¬ ((1 : Int32) = (0 : Int32)))).1) kq_) ?_
        refine Gl.of (fun _ kq_ => XS.aload X111.here hx rfl (hb hby at_375) rfl rfl kq_) ?_
        refine Gl.of (fun _ kq_ => XS.aload X111.here hx rfl (hb hby at_377) rfl rfl kq_) ?_
        refine Gl.of (fun _ kq_ => XS.iconst X111.here hx rfl (hb hby at_379) kq_) ?_
        refine Gl.of (fun _ kq_ => XS.iload X111.here hx rfl (hb hby at_380) rfl kq_) ?_
        refine Gl.callS0 X111 hx hZ (y := (⟨"com/example/rulr/rulr/policy/MembershipConditionPinLaw", "at", "(Ljava/lang/String;[CII)Z"⟩ : MethodName)) hown (w139 hw) (w140 hw) (w3 hw) (w141 hw) (desc_ne (by decide)) (argsL := [(.ref r101), (.ref b1), (.int (4 : Int32)), (.int (0 : Int32))]) (rest := []) (rmA04 l Z a0 hw _ r101 t101 b1 kb101 k1 (nar .char (32 : Int32)) (nar .char (87 : Int32)) (nar .char (72 : Int32)) (nar .char (69 : Int32)) (nar .char (82 : Int32)) (nar .char (69 : Int32)) (nar .char (32 : Int32)) (nar .char c23_) (nar .char c26_) (nar .char c29_) (nar .char c32_) (nar .char c35_) cz fm n0 SG101 vc102 SC hcz SF rf O101) 0 (by decide) (by decide) e111 (by rw [hml]; rfl) pd_17 rfl rfl (Nat.le_of_eq rfl) (hb hby at_382) (by decide) (by decide) ?_
        intro v112 T112 X112 e112 hv112
        subst hv112
        show Gl p e below _ (T112.setTop (mkF m 385 #[.val (.long p1), .second, .val (.long p2), .second, .val (.int p3), .val (.int p4), .val (.ref b1), .val (.int (1 : Int32)), .val (.int (0 : Int32)), .val (.int (0 : Int32)), .val (.ref b78), .val (.ref b83), .val (.ref r101), .val (.int (5 : Int32))] [(.int (1 : Int32))]))
        refine Gl.of (fun _ kq_ => XS.ifNo X112.here hx rfl (hb hby at_385) rfl ((if0 _ _).trans (feq (by decide : ¬ ((1 : Int32) = (0 : Int32)))).1) kq_) ?_
        refine Gl.of (fun _ kq_ => XS.iconst X112.here hx rfl (hb hby at_388) kq_) ?_
        refine Gl.of (fun _ kq_ => XS.goto X112.here hx rfl (pc0 := 389) (pc' := 393) rfl (hb hby at_389) (by decide) (by decide) kq_) ?_
        exact Gl.retNH X112 hx hlk hret (by simp) (hb hby at_393) e112 (⟨rfl, N101⟩) hS101 (Nat.le_refl _) hZ (own_el hw) hR101 (by decide) (by decide)
      refine Gl.of (fun _ kq_ => XS.iload X87.here hx rfl (hb hby at_257) rfl kq_) ?_
      refine Gl.of (fun _ kq_ => XS.bipush X87.here hx rfl (hb hby at_259) kq_) ?_
      refine Gl.of (fun _ kq_ => XS.iand X87.here hx rfl (hb hby at_261) rfl kq_) ?_
      show Gl p e below _ (T87.setTop (mkF m 262 #[.val (.long p1), .second, .val (.long p2), .second, .val (.int p3), .val (.int p4), .val (.ref b1), .val (.int (1 : Int32)), .val (.int (0 : Int32)), .val (.int (0 : Int32)), .val (.ref b78), .unset, .unset, .unset] [(.int (p3 &&& (8 : Int32))), (.int (0 : Int32)), .null, (.ref b78), (.ref r87), (.ref b83), (.ref b83)]))
      by_cases hc262_113 : (p3 &&& (8 : Int32)) = (0 : Int32)
      · refine Gl.of (fun _ kq_ => XS.ifYes X87.here hx rfl (pc0 := 262) (pc' := 269) rfl (hb hby at_262) rfl ((if0 _ _).trans (teq hc262_113).1) (by decide) (by decide) kq_) ?_
        refine Gl.of (fun _ kq_ => XS.iconst X87.here hx rfl (hb hby at_269) kq_) ?_
        show Gl p e below _ (T87.setTop (mkF m 270 #[.val (.long p1), .second, .val (.long p2), .second, .val (.int p3), .val (.int p4), .val (.ref b1), .val (.int (1 : Int32)), .val (.int (0 : Int32)), .val (.int (0 : Int32)), .val (.ref b78), .unset, .unset, .unset] [(.int (0 : Int32)), (.int (0 : Int32)), .null, (.ref b78), (.ref r87), (.ref b83), (.ref b83)]))
        exact J270 _
      · refine Gl.of (fun _ kq_ => XS.ifNo X87.here hx rfl (hb hby at_262) rfl ((if0 _ _).trans (feq hc262_113).1) kq_) ?_
        refine Gl.of (fun _ kq_ => XS.iconst X87.here hx rfl (hb hby at_265) kq_) ?_
        refine Gl.of (fun _ kq_ => XS.goto X87.here hx rfl (pc0 := 266) (pc' := 270) rfl (hb hby at_266) (by decide) (by decide) kq_) ?_
        show Gl p e below _ (T87.setTop (mkF m 270 #[.val (.long p1), .second, .val (.long p2), .second, .val (.int p3), .val (.int p4), .val (.ref b1), .val (.int (1 : Int32)), .val (.int (0 : Int32)), .val (.int (0 : Int32)), .val (.ref b78), .unset, .unset, .unset] [(.int (1 : Int32)), (.int (0 : Int32)), .null, (.ref b78), (.ref r87), (.ref b83), (.ref b83)]))
        exact J270 _
    · rw [hq4]
      refine Gl.of (fun _ kq_ => XS.aload X37.here hx rfl (hb hby at_155) rfl rfl kq_) ?_
      refine Gl.of (fun _ kq_ => XS.iload X37.here hx rfl (hb hby at_157) rfl kq_) ?_
      refine Gl.of (fun _ kq_ => XS.bipush X37.here hx rfl (hb hby at_159) kq_) ?_
      obtain ⟨zcl114, zAr114, zq114, zS114, zM114, zH114, zG114⟩ := id V37
      obtain ⟨T115, h115, X115, e115, W115, st115⟩ := stC X37 hx hZ e37 zAr114 (j := (1 : Int32)) (inb_of zS114 ⟨by decide, by decide⟩) (g := (mkF m 161 #[.val (.long p1), .second, .val (.long p2), .second, .val (.int p3), .val (.int p4), .val (.ref b1), .val (.int (1 : Int32)), .val (.int (1 : Int32)), .unset, .unset, .unset, .unset, .unset] [(.int (32 : Int32)), (.int (1 : Int32)), (.ref b1)])) rfl rfl (hb hby at_161)
      refine Gl.of st115 ?_
      have V115 : Arv Z h115 b1 k1 .char (12 : Int32) [(.int (nar .char c2_)), (.int (nar .char (32 : Int32))), (.int (nar .char c8_)), (.int (nar .char c11_)), (.int (nar .char c14_)), (.int (nar .char c17_)), (.int (nar .char c20_)), (.int (nar .char c23_)), (.int (nar .char c26_)), (.int (nar .char c29_)), (.int (nar .char c32_)), (.int (nar .char c35_))] (.int (0 : Int32)) := Arv.set zAr114 zq114 zS114 zM114 zH114 zG114 (fits_nar_char _) W115 1 rfl (Nat.le_of_ble_eq_true rfl)
      have N115 := Fr.snoc X115 N37 Gb1
      have O115 := O37.wr W115 Gb1
      have K115 := K37.wr W115 (Or.inr Jb1)
      have hk115 := Nat.le_trans hk37 (Keep.of_wr W115).1
      show Gl p e below _ (T115.setTop (mkF m 162 #[.val (.long p1), .second, .val (.long p2), .second, .val (.int p3), .val (.int p4), .val (.ref b1), .val (.int (1 : Int32)), .val (.int (1 : Int32)), .unset, .unset, .unset, .unset, .unset] []))
      refine Gl.of (fun _ kq_ => XS.aload X115.here hx rfl (hb hby at_162) rfl rfl kq_) ?_
      refine Gl.of (fun _ kq_ => XS.iload X115.here hx rfl (hb hby at_164) rfl kq_) ?_
      refine Gl.of (fun _ kq_ => XS.iconst X115.here hx rfl (hb hby at_166) kq_) ?_
      refine Gl.of (fun _ kq_ => XS.iadd X115.here hx rfl (hb hby at_167) rfl kq_) ?_
      show Gl p e below _ (T115.setTop (mkF m 168 #[.val (.long p1), .second, .val (.long p2), .second, .val (.int p3), .val (.int p4), .val (.ref b1), .val (.int (1 : Int32)), .val (.int (1 : Int32)), .unset, .unset, .unset, .unset, .unset] [(.int (2 : Int32)), (.ref b1)]))
      refine Gl.of (fun _ kq_ => XS.bipush X115.here hx rfl (hb hby at_168) kq_) ?_
      obtain ⟨zcl116, zAr116, zq116, zS116, zM116, zH116, zG116⟩ := id V115
      obtain ⟨T117, h117, X117, e117, W117, st117⟩ := stC X115 hx hZ e115 zAr116 (j := (2 : Int32)) (inb_of zS116 ⟨by decide, by decide⟩) (g := (mkF m 170 #[.val (.long p1), .second, .val (.long p2), .second, .val (.int p3), .val (.int p4), .val (.ref b1), .val (.int (1 : Int32)), .val (.int (1 : Int32)), .unset, .unset, .unset, .unset, .unset] [(.int (87 : Int32)), (.int (2 : Int32)), (.ref b1)])) rfl rfl (hb hby at_170)
      refine Gl.of st117 ?_
      have V117 : Arv Z h117 b1 k1 .char (12 : Int32) [(.int (nar .char c2_)), (.int (nar .char (32 : Int32))), (.int (nar .char (87 : Int32))), (.int (nar .char c11_)), (.int (nar .char c14_)), (.int (nar .char c17_)), (.int (nar .char c20_)), (.int (nar .char c23_)), (.int (nar .char c26_)), (.int (nar .char c29_)), (.int (nar .char c32_)), (.int (nar .char c35_))] (.int (0 : Int32)) := Arv.set zAr116 zq116 zS116 zM116 zH116 zG116 (fits_nar_char _) W117 2 rfl (Nat.le_of_ble_eq_true rfl)
      have N117 := Fr.snoc X117 N115 Gb1
      have O117 := O115.wr W117 Gb1
      have K117 := K115.wr W117 (Or.inr Jb1)
      have hk117 := Nat.le_trans hk115 (Keep.of_wr W117).1
      show Gl p e below _ (T117.setTop (mkF m 171 #[.val (.long p1), .second, .val (.long p2), .second, .val (.int p3), .val (.int p4), .val (.ref b1), .val (.int (1 : Int32)), .val (.int (1 : Int32)), .unset, .unset, .unset, .unset, .unset] []))
      refine Gl.of (fun _ kq_ => XS.aload X117.here hx rfl (hb hby at_171) rfl rfl kq_) ?_
      refine Gl.of (fun _ kq_ => XS.iload X117.here hx rfl (hb hby at_173) rfl kq_) ?_
      refine Gl.of (fun _ kq_ => XS.iconst X117.here hx rfl (hb hby at_175) kq_) ?_
      refine Gl.of (fun _ kq_ => XS.iadd X117.here hx rfl (hb hby at_176) rfl kq_) ?_
      show Gl p e below _ (T117.setTop (mkF m 177 #[.val (.long p1), .second, .val (.long p2), .second, .val (.int p3), .val (.int p4), .val (.ref b1), .val (.int (1 : Int32)), .val (.int (1 : Int32)), .unset, .unset, .unset, .unset, .unset] [(.int (3 : Int32)), (.ref b1)]))
      refine Gl.of (fun _ kq_ => XS.bipush X117.here hx rfl (hb hby at_177) kq_) ?_
      obtain ⟨zcl118, zAr118, zq118, zS118, zM118, zH118, zG118⟩ := id V117
      obtain ⟨T119, h119, X119, e119, W119, st119⟩ := stC X117 hx hZ e117 zAr118 (j := (3 : Int32)) (inb_of zS118 ⟨by decide, by decide⟩) (g := (mkF m 179 #[.val (.long p1), .second, .val (.long p2), .second, .val (.int p3), .val (.int p4), .val (.ref b1), .val (.int (1 : Int32)), .val (.int (1 : Int32)), .unset, .unset, .unset, .unset, .unset] [(.int (72 : Int32)), (.int (3 : Int32)), (.ref b1)])) rfl rfl (hb hby at_179)
      refine Gl.of st119 ?_
      have V119 : Arv Z h119 b1 k1 .char (12 : Int32) [(.int (nar .char c2_)), (.int (nar .char (32 : Int32))), (.int (nar .char (87 : Int32))), (.int (nar .char (72 : Int32))), (.int (nar .char c14_)), (.int (nar .char c17_)), (.int (nar .char c20_)), (.int (nar .char c23_)), (.int (nar .char c26_)), (.int (nar .char c29_)), (.int (nar .char c32_)), (.int (nar .char c35_))] (.int (0 : Int32)) := Arv.set zAr118 zq118 zS118 zM118 zH118 zG118 (fits_nar_char _) W119 3 rfl (Nat.le_of_ble_eq_true rfl)
      have N119 := Fr.snoc X119 N117 Gb1
      have O119 := O117.wr W119 Gb1
      have K119 := K117.wr W119 (Or.inr Jb1)
      have hk119 := Nat.le_trans hk117 (Keep.of_wr W119).1
      show Gl p e below _ (T119.setTop (mkF m 180 #[.val (.long p1), .second, .val (.long p2), .second, .val (.int p3), .val (.int p4), .val (.ref b1), .val (.int (1 : Int32)), .val (.int (1 : Int32)), .unset, .unset, .unset, .unset, .unset] []))
      refine Gl.of (fun _ kq_ => XS.aload X119.here hx rfl (hb hby at_180) rfl rfl kq_) ?_
      refine Gl.of (fun _ kq_ => XS.iload X119.here hx rfl (hb hby at_182) rfl kq_) ?_
      refine Gl.of (fun _ kq_ => XS.iconst X119.here hx rfl (hb hby at_184) kq_) ?_
      refine Gl.of (fun _ kq_ => XS.iadd X119.here hx rfl (hb hby at_185) rfl kq_) ?_
      show Gl p e below _ (T119.setTop (mkF m 186 #[.val (.long p1), .second, .val (.long p2), .second, .val (.int p3), .val (.int p4), .val (.ref b1), .val (.int (1 : Int32)), .val (.int (1 : Int32)), .unset, .unset, .unset, .unset, .unset] [(.int (4 : Int32)), (.ref b1)]))
      refine Gl.of (fun _ kq_ => XS.bipush X119.here hx rfl (hb hby at_186) kq_) ?_
      obtain ⟨zcl120, zAr120, zq120, zS120, zM120, zH120, zG120⟩ := id V119
      obtain ⟨T121, h121, X121, e121, W121, st121⟩ := stC X119 hx hZ e119 zAr120 (j := (4 : Int32)) (inb_of zS120 ⟨by decide, by decide⟩) (g := (mkF m 188 #[.val (.long p1), .second, .val (.long p2), .second, .val (.int p3), .val (.int p4), .val (.ref b1), .val (.int (1 : Int32)), .val (.int (1 : Int32)), .unset, .unset, .unset, .unset, .unset] [(.int (69 : Int32)), (.int (4 : Int32)), (.ref b1)])) rfl rfl (hb hby at_188)
      refine Gl.of st121 ?_
      have V121 : Arv Z h121 b1 k1 .char (12 : Int32) [(.int (nar .char c2_)), (.int (nar .char (32 : Int32))), (.int (nar .char (87 : Int32))), (.int (nar .char (72 : Int32))), (.int (nar .char (69 : Int32))), (.int (nar .char c17_)), (.int (nar .char c20_)), (.int (nar .char c23_)), (.int (nar .char c26_)), (.int (nar .char c29_)), (.int (nar .char c32_)), (.int (nar .char c35_))] (.int (0 : Int32)) := Arv.set zAr120 zq120 zS120 zM120 zH120 zG120 (fits_nar_char _) W121 4 rfl (Nat.le_of_ble_eq_true rfl)
      have N121 := Fr.snoc X121 N119 Gb1
      have O121 := O119.wr W121 Gb1
      have K121 := K119.wr W121 (Or.inr Jb1)
      have hk121 := Nat.le_trans hk119 (Keep.of_wr W121).1
      show Gl p e below _ (T121.setTop (mkF m 189 #[.val (.long p1), .second, .val (.long p2), .second, .val (.int p3), .val (.int p4), .val (.ref b1), .val (.int (1 : Int32)), .val (.int (1 : Int32)), .unset, .unset, .unset, .unset, .unset] []))
      refine Gl.of (fun _ kq_ => XS.aload X121.here hx rfl (hb hby at_189) rfl rfl kq_) ?_
      refine Gl.of (fun _ kq_ => XS.iload X121.here hx rfl (hb hby at_191) rfl kq_) ?_
      refine Gl.of (fun _ kq_ => XS.iconst X121.here hx rfl (hb hby at_193) kq_) ?_
      refine Gl.of (fun _ kq_ => XS.iadd X121.here hx rfl (hb hby at_194) rfl kq_) ?_
      show Gl p e below _ (T121.setTop (mkF m 195 #[.val (.long p1), .second, .val (.long p2), .second, .val (.int p3), .val (.int p4), .val (.ref b1), .val (.int (1 : Int32)), .val (.int (1 : Int32)), .unset, .unset, .unset, .unset, .unset] [(.int (5 : Int32)), (.ref b1)]))
      refine Gl.of (fun _ kq_ => XS.bipush X121.here hx rfl (hb hby at_195) kq_) ?_
      obtain ⟨zcl122, zAr122, zq122, zS122, zM122, zH122, zG122⟩ := id V121
      obtain ⟨T123, h123, X123, e123, W123, st123⟩ := stC X121 hx hZ e121 zAr122 (j := (5 : Int32)) (inb_of zS122 ⟨by decide, by decide⟩) (g := (mkF m 197 #[.val (.long p1), .second, .val (.long p2), .second, .val (.int p3), .val (.int p4), .val (.ref b1), .val (.int (1 : Int32)), .val (.int (1 : Int32)), .unset, .unset, .unset, .unset, .unset] [(.int (82 : Int32)), (.int (5 : Int32)), (.ref b1)])) rfl rfl (hb hby at_197)
      refine Gl.of st123 ?_
      have V123 : Arv Z h123 b1 k1 .char (12 : Int32) [(.int (nar .char c2_)), (.int (nar .char (32 : Int32))), (.int (nar .char (87 : Int32))), (.int (nar .char (72 : Int32))), (.int (nar .char (69 : Int32))), (.int (nar .char (82 : Int32))), (.int (nar .char c20_)), (.int (nar .char c23_)), (.int (nar .char c26_)), (.int (nar .char c29_)), (.int (nar .char c32_)), (.int (nar .char c35_))] (.int (0 : Int32)) := Arv.set zAr122 zq122 zS122 zM122 zH122 zG122 (fits_nar_char _) W123 5 rfl (Nat.le_of_ble_eq_true rfl)
      have N123 := Fr.snoc X123 N121 Gb1
      have O123 := O121.wr W123 Gb1
      have K123 := K121.wr W123 (Or.inr Jb1)
      have hk123 := Nat.le_trans hk121 (Keep.of_wr W123).1
      show Gl p e below _ (T123.setTop (mkF m 198 #[.val (.long p1), .second, .val (.long p2), .second, .val (.int p3), .val (.int p4), .val (.ref b1), .val (.int (1 : Int32)), .val (.int (1 : Int32)), .unset, .unset, .unset, .unset, .unset] []))
      refine Gl.of (fun _ kq_ => XS.aload X123.here hx rfl (hb hby at_198) rfl rfl kq_) ?_
      refine Gl.of (fun _ kq_ => XS.iload X123.here hx rfl (hb hby at_200) rfl kq_) ?_
      refine Gl.of (fun _ kq_ => XS.iconst X123.here hx rfl (hb hby at_202) kq_) ?_
      refine Gl.of (fun _ kq_ => XS.iadd X123.here hx rfl (hb hby at_203) rfl kq_) ?_
      show Gl p e below _ (T123.setTop (mkF m 204 #[.val (.long p1), .second, .val (.long p2), .second, .val (.int p3), .val (.int p4), .val (.ref b1), .val (.int (1 : Int32)), .val (.int (1 : Int32)), .unset, .unset, .unset, .unset, .unset] [(.int (6 : Int32)), (.ref b1)]))
      refine Gl.of (fun _ kq_ => XS.bipush X123.here hx rfl (hb hby at_204) kq_) ?_
      obtain ⟨zcl124, zAr124, zq124, zS124, zM124, zH124, zG124⟩ := id V123
      obtain ⟨T125, h125, X125, e125, W125, st125⟩ := stC X123 hx hZ e123 zAr124 (j := (6 : Int32)) (inb_of zS124 ⟨by decide, by decide⟩) (g := (mkF m 206 #[.val (.long p1), .second, .val (.long p2), .second, .val (.int p3), .val (.int p4), .val (.ref b1), .val (.int (1 : Int32)), .val (.int (1 : Int32)), .unset, .unset, .unset, .unset, .unset] [(.int (69 : Int32)), (.int (6 : Int32)), (.ref b1)])) rfl rfl (hb hby at_206)
      refine Gl.of st125 ?_
      have V125 : Arv Z h125 b1 k1 .char (12 : Int32) [(.int (nar .char c2_)), (.int (nar .char (32 : Int32))), (.int (nar .char (87 : Int32))), (.int (nar .char (72 : Int32))), (.int (nar .char (69 : Int32))), (.int (nar .char (82 : Int32))), (.int (nar .char (69 : Int32))), (.int (nar .char c23_)), (.int (nar .char c26_)), (.int (nar .char c29_)), (.int (nar .char c32_)), (.int (nar .char c35_))] (.int (0 : Int32)) := Arv.set zAr124 zq124 zS124 zM124 zH124 zG124 (fits_nar_char _) W125 6 rfl (Nat.le_of_ble_eq_true rfl)
      have N125 := Fr.snoc X125 N123 Gb1
      have O125 := O123.wr W125 Gb1
      have K125 := K123.wr W125 (Or.inr Jb1)
      have hk125 := Nat.le_trans hk123 (Keep.of_wr W125).1
      show Gl p e below _ (T125.setTop (mkF m 207 #[.val (.long p1), .second, .val (.long p2), .second, .val (.int p3), .val (.int p4), .val (.ref b1), .val (.int (1 : Int32)), .val (.int (1 : Int32)), .unset, .unset, .unset, .unset, .unset] []))
      refine Gl.of (fun _ kq_ => XS.aload X125.here hx rfl (hb hby at_207) rfl rfl kq_) ?_
      refine Gl.of (fun _ kq_ => XS.iload X125.here hx rfl (hb hby at_209) rfl kq_) ?_
      refine Gl.of (fun _ kq_ => XS.bipush X125.here hx rfl (hb hby at_211) kq_) ?_
      refine Gl.of (fun _ kq_ => XS.iadd X125.here hx rfl (hb hby at_213) rfl kq_) ?_
      show Gl p e below _ (T125.setTop (mkF m 214 #[.val (.long p1), .second, .val (.long p2), .second, .val (.int p3), .val (.int p4), .val (.ref b1), .val (.int (1 : Int32)), .val (.int (1 : Int32)), .unset, .unset, .unset, .unset, .unset] [(.int (7 : Int32)), (.ref b1)]))
      refine Gl.of (fun _ kq_ => XS.bipush X125.here hx rfl (hb hby at_214) kq_) ?_
      obtain ⟨zcl126, zAr126, zq126, zS126, zM126, zH126, zG126⟩ := id V125
      obtain ⟨T127, h127, X127, e127, W127, st127⟩ := stC X125 hx hZ e125 zAr126 (j := (7 : Int32)) (inb_of zS126 ⟨by decide, by decide⟩) (g := (mkF m 216 #[.val (.long p1), .second, .val (.long p2), .second, .val (.int p3), .val (.int p4), .val (.ref b1), .val (.int (1 : Int32)), .val (.int (1 : Int32)), .unset, .unset, .unset, .unset, .unset] [(.int (32 : Int32)), (.int (7 : Int32)), (.ref b1)])) rfl rfl (hb hby at_216)
      refine Gl.of st127 ?_
      have V127 : Arv Z h127 b1 k1 .char (12 : Int32) [(.int (nar .char c2_)), (.int (nar .char (32 : Int32))), (.int (nar .char (87 : Int32))), (.int (nar .char (72 : Int32))), (.int (nar .char (69 : Int32))), (.int (nar .char (82 : Int32))), (.int (nar .char (69 : Int32))), (.int (nar .char (32 : Int32))), (.int (nar .char c26_)), (.int (nar .char c29_)), (.int (nar .char c32_)), (.int (nar .char c35_))] (.int (0 : Int32)) := Arv.set zAr126 zq126 zS126 zM126 zH126 zG126 (fits_nar_char _) W127 7 rfl (Nat.le_of_ble_eq_true rfl)
      have N127 := Fr.snoc X127 N125 Gb1
      have O127 := O125.wr W127 Gb1
      have K127 := K125.wr W127 (Or.inr Jb1)
      have hk127 := Nat.le_trans hk125 (Keep.of_wr W127).1
      show Gl p e below _ (T127.setTop (mkF m 217 #[.val (.long p1), .second, .val (.long p2), .second, .val (.int p3), .val (.int p4), .val (.ref b1), .val (.int (1 : Int32)), .val (.int (1 : Int32)), .unset, .unset, .unset, .unset, .unset] []))
      refine Gl.of (fun _ kq_ => XS.iload X127.here hx rfl (hb hby at_217) rfl kq_) ?_
      refine Gl.of (fun _ kq_ => XS.istore X127.here hx rfl (hb hby at_219) rfl (l' := #[.val (.long p1), .second, .val (.long p2), .second, .val (.int p3), .val (.int p4), .val (.ref b1), .val (.int (1 : Int32)), .val (.int (1 : Int32)), .val (.int (1 : Int32)), .unset, .unset, .unset, .unset]) rfl kq_) ?_
      refine Gl.of (fun _ kq_ => XS.goto X127.here hx rfl (pc0 := 221) (pc' := 228) rfl (hb hby at_221) (by decide) (by decide) kq_) ?_
      obtain ⟨T128, h128, X128, e128, E128, A128, D128, -, st128⟩ := newO X127 hx hZ hown (w6 hw) (w7 hw) (w8 hw) e127 (g := (mkF m 228 #[.val (.long p1), .second, .val (.long p2), .second, .val (.int p3), .val (.int p4), .val (.ref b1), .val (.int (1 : Int32)), .val (.int (1 : Int32)), .val (.int (1 : Int32)), .unset, .unset, .unset, .unset] [])) rfl (hb hby at_228) (by decide) (by decide)
      obtain ⟨b128, g128⟩ : ∃ z, z = h127.size := ⟨_, rfl⟩
      rw [← g128] at A128 D128 st128
      refine Gl.of st128 ?_
      have Gb128 : n0 ≤ b128 := Nat.le_trans (O127.1 ▸ O127.2.1) (Nat.le_of_eq g128.symm)
      have Jb128 : h0.size ≤ b128 := Nat.le_trans K127.1 (Nat.le_of_eq g128.symm)
      have ne_b1_b128 : b1 ≠ b128 := Nat.ne_of_lt (Nat.lt_of_lt_of_le V127.lt (Nat.le_of_eq g128.symm))
      have vc129 := V127.ext E128
      have O128 := O127.ext E128
      have K128 := K127.ext E128
      have hk128 := Nat.le_trans hk127 E128.1
      have F128_coder : Fld Z h128 b128 "java/lang/String" "coder" "B" (.int (0 : Int32)) := D128 (Or.inr (w32 hw)) (ty := .byte) (by decide)
      have F128_value : Fld Z h128 b128 "java/lang/String" "value" "[B" .null := D128 (Or.inr (w34 hw)) (ty := (.array .byte)) (by decide)
      show Gl p e below _ (T128.setTop (mkF m 231 #[.val (.long p1), .second, .val (.long p2), .second, .val (.int p3), .val (.int p4), .val (.ref b1), .val (.int (1 : Int32)), .val (.int (1 : Int32)), .val (.int (1 : Int32)), .unset, .unset, .unset, .unset] [(.ref b128)]))
      refine Gl.of (fun _ kq_ => XS.dup X128.here hx rfl (hb hby at_231) rfl rfl kq_) ?_
      refine Gl.of (fun _ kq_ => XS.aload X128.here hx rfl (hb hby at_232) rfl rfl kq_) ?_
      have hp130 : ∀ c ∈ ([(nar .char c2_), (nar .char (32 : Int32)), (nar .char (87 : Int32)), (nar .char (72 : Int32)), (nar .char (69 : Int32)), (nar .char (82 : Int32)), (nar .char (69 : Int32)), (nar .char (32 : Int32)), (nar .char c26_), (nar .char c29_), (nar .char c32_), (nar .char c35_)] : List Int32), ¬ c < 0 ∧ ¬ (255 : Int32) < c := own_cons (own_nr hc2_) (own_cons (by decide) (own_cons (by decide) (own_cons (by decide) (own_cons (by decide) (own_cons (by decide) (own_cons (by decide) (own_cons (by decide) (own_cons (own_nr hc26_) (own_cons (own_nr hc29_) (own_cons (own_nr hc32_) (own_cons (own_nr hc35_) (own_nil))))))))))))
      refine Gl.callIB X128 hx hZ (y := (⟨"java/lang/String", "<init>", "([C)V"⟩ : MethodName)) rfl hown (w9 hw) (w10 hw) (w11 hw) (desc_ne (by decide)) (C := 1) (N := 12) (W := 1) (own_QB Z b128 (12 : Int32) ((([(nar .char c2_), (nar .char (32 : Int32)), (nar .char (87 : Int32)), (nar .char (72 : Int32)), (nar .char (69 : Int32)), (nar .char (82 : Int32)), (nar .char (69 : Int32)), (nar .char (32 : Int32)), (nar .char c26_), (nar .char c29_), (nar .char c32_), (nar .char c35_)] : List Int32)).map (fun c => c.toInt8.toInt32)) h128 n0) (b := b128) (argsL := [(.ref b1)]) (rest := [(.ref b128)]) (own_backB (W := 1) hZ (own_ws hw) (kI := 4) (w7 hw) (cs := ([(nar .char c2_), (nar .char (32 : Int32)), (nar .char (87 : Int32)), (nar .char (72 : Int32)), (nar .char (69 : Int32)), (nar .char (82 : Int32)), (nar .char (69 : Int32)), (nar .char (32 : Int32)), (nar .char c26_), (nar .char c29_), (nar .char c32_), (nar .char c35_)] : List Int32)) (bs := (([(nar .char c2_), (nar .char (32 : Int32)), (nar .char (87 : Int32)), (nar .char (72 : Int32)), (nar .char (69 : Int32)), (nar .char (82 : Int32)), (nar .char (69 : Int32)), (nar .char (32 : Int32)), (nar .char c26_), (nar .char c29_), (nar .char c32_), (nar .char c35_)] : List Int32)).map (fun c => c.toInt8.toInt32)) (n := 12) Gb128 (O128.1 ▸ O128.2.1) A128 F128_value F128_coder vc129 (SC.ext O128.2) hcz rfl rfl (by decide) (by decide) hp130 rfl (by decide) (by decide)) (by decide) (by decide) e128 (by rw [hml]; rfl) pd_13 rfl rfl (Nat.le_of_eq rfl) (hb hby at_234) ?_
      intro v130 T130 L130 X130 hQ130
      obtain ⟨rfl, Nq130, Kq130, Eq130, Cq130, t130, kb130, Gt130, Ht130, nt130, Vq130, fb130, Bq130⟩ := hQ130
      have N130 := Fr.app N127 Nq130
      have Gt130 : n0 ≤ t130 := Gt130
      have ne_b1_t130 : b1 ≠ t130 := Nat.ne_of_lt (Nat.lt_of_lt_of_le vc129.lt Ht130)
      have ne_b128_t130 : b128 ≠ t130 := Nat.ne_of_lt (Nat.lt_of_lt_of_le A128.lt Ht130)
      have Jt130 : h0.size ≤ t130 := Nat.le_trans K128.1 Ht130
      have vc131 := vc129.keep Kq130 (fun q => ne_b1_b128 (List.mem_singleton.mp q))
      have ec132 := A128.keep Kq130
      have O130 := O128.keep Kq130 (allS Gb128 all0)
      have K130 := K128.trans Kq130 (by intro x hx'; cases List.mem_singleton.mp hx'; exact Or.inr Jb128)
      have hk130 := Nat.le_trans hk128 Kq130.1
      have SG130 : Strg Z T130.heap b128 t130 kb130 ([(nar .char c2_), (nar .char (32 : Int32)), (nar .char (87 : Int32)), (nar .char (72 : Int32)), (nar .char (69 : Int32)), (nar .char (82 : Int32)), (nar .char (69 : Int32)), (nar .char (32 : Int32)), (nar .char c26_), (nar .char c29_), (nar .char c32_), (nar .char c35_)] : List Int32) := ⟨Eq130, Vq130, Cq130, Bq130, hp130, Nat.le_of_ble_eq_true rfl⟩
      show Gl p e below _ (T130.setTop (mkF m 237 #[.val (.long p1), .second, .val (.long p2), .second, .val (.int p3), .val (.int p4), .val (.ref b1), .val (.int (1 : Int32)), .val (.int (1 : Int32)), .val (.int (1 : Int32)), .unset, .unset, .unset, .unset] [(.ref b128)]))
      refine Gl.of (fun _ kq_ => XS.astore X130.here hx rfl (hb hby at_237) rfl rfl (l' := #[.val (.long p1), .second, .val (.long p2), .second, .val (.int p3), .val (.int p4), .val (.ref b1), .val (.int (1 : Int32)), .val (.int (1 : Int32)), .val (.int (1 : Int32)), .val (.ref b128), .unset, .unset, .unset]) rfl kq_) ?_
      obtain ⟨T133, h133, X133, e133, E133, A133, D133, -, st133⟩ := newO X130 hx hZ hown (w35 hw) (w36 hw) (w37 hw) rfl (g := (mkF m 239 #[.val (.long p1), .second, .val (.long p2), .second, .val (.int p3), .val (.int p4), .val (.ref b1), .val (.int (1 : Int32)), .val (.int (1 : Int32)), .val (.int (1 : Int32)), .val (.ref b128), .unset, .unset, .unset] [])) rfl (hb hby at_239) (by decide) (by decide)
      obtain ⟨b133, g133⟩ : ∃ z, z = T130.heap.size := ⟨_, rfl⟩
      rw [← g133] at A133 D133 st133
      refine Gl.of st133 ?_
      have Gb133 : n0 ≤ b133 := Nat.le_trans (O130.1 ▸ O130.2.1) (Nat.le_of_eq g133.symm)
      have Jb133 : h0.size ≤ b133 := Nat.le_trans K130.1 (Nat.le_of_eq g133.symm)
      have ne_b1_b133 : b1 ≠ b133 := Nat.ne_of_lt (Nat.lt_of_lt_of_le vc131.lt (Nat.le_of_eq g133.symm))
      have ne_b128_b133 : b128 ≠ b133 := Nat.ne_of_lt (Nat.lt_of_lt_of_le SG130.lt (Nat.le_of_eq g133.symm))
      have ne_t130_b133 : t130 ≠ b133 := Nat.ne_of_lt (Nat.lt_of_lt_of_le SG130.lt' (Nat.le_of_eq g133.symm))
      have vc134 := vc131.ext E133
      have gc135 := SG130.ext E133
      have O133 := O130.ext E133
      have K133 := K130.ext E133
      have hk133 := Nat.le_trans hk130 E133.1
      have F133_column : Fld Z h133 b133 "com/example/rulr/rulr/policy/SqlCondition$Membership" "column" "Ljava/lang/String;" .null := D133 (Or.inr (w62 hw)) (ty := (.object "java/lang/String")) (by decide)
      have F133_query : Fld Z h133 b133 "com/example/rulr/rulr/policy/SqlCondition$Membership" "query" "Ljava/lang/String;" .null := D133 (Or.inr (w64 hw)) (ty := (.object "java/lang/String")) (by decide)
      have F133_varying : Fld Z h133 b133 "com/example/rulr/rulr/policy/SqlCondition$Membership" "varying" "Lcom/example/rulr/rulr/policy/SqlCondition$Span;" .null := D133 (Or.inr (w66 hw)) (ty := (.object "com/example/rulr/rulr/policy/SqlCondition$Span")) (by decide)
      have F133_selected : Fld Z h133 b133 "com/example/rulr/rulr/policy/SqlCondition$Membership" "selected" "I" (.int (0 : Int32)) := D133 (Or.inr (w68 hw)) (ty := .int) (by decide)
      have F133_anchored : Fld Z h133 b133 "com/example/rulr/rulr/policy/SqlCondition$Membership" "anchored" "Z" (.int (0 : Int32)) := D133 (Or.inr (w70 hw)) (ty := .boolean) (by decide)
      have F133_joined : Fld Z h133 b133 "com/example/rulr/rulr/policy/SqlCondition$Membership" "joined" "I" (.int (0 : Int32)) := D133 (Or.inr (w72 hw)) (ty := .int) (by decide)
      show Gl p e below _ (T133.setTop (mkF m 242 #[.val (.long p1), .second, .val (.long p2), .second, .val (.int p3), .val (.int p4), .val (.ref b1), .val (.int (1 : Int32)), .val (.int (1 : Int32)), .val (.int (1 : Int32)), .val (.ref b128), .unset, .unset, .unset] [(.ref b133)]))
      refine Gl.of (fun _ kq_ => XS.dup X133.here hx rfl (hb hby at_242) rfl rfl kq_) ?_
      refine Gl.of (fun _ kq_ => XS.lloadN X133.here hx rfl (hb hby at_243) rfl kq_) ?_
      refine Gl.of (fun _ kq_ => XS.bipush X133.here hx rfl (hb hby at_244) kq_) ?_
      refine Gl.callS0 X133 hx hZ (y := (⟨"com/example/rulr/rulr/policy/MembershipConditionPinLaw", "ch", "(JI)C"⟩ : MethodName)) hown (w1 hw) (w2 hw) (w3 hw) (w4 hw) (desc_ne (by decide)) (argsL := [(.long p2), (.int (32 : Int32))]) (rest := [(.ref b133), (.ref b133)]) (rmH l Z a0 hw _ p2 (32 : Int32)) 2 (by decide) (by decide) e133 (by rw [hml]; rfl) pd_12 rfl rfl (Nat.le_of_eq rfl) (hb hby at_246) (by decide) (by decide) ?_
      intro v136 T136 X136 e136 hv136
      obtain ⟨c136_, rfl, hc136_⟩ := hv136
      show Gl p e below _ (T136.setTop (mkF m 249 #[.val (.long p1), .second, .val (.long p2), .second, .val (.int p3), .val (.int p4), .val (.ref b1), .val (.int (1 : Int32)), .val (.int (1 : Int32)), .val (.int (1 : Int32)), .val (.ref b128), .unset, .unset, .unset] [(.int c136_), (.ref b133), (.ref b133)]))
      refine Gl.callS X136 hx hZ (y := (⟨"java/lang/String", "valueOf", "(C)Ljava/lang/String;"⟩ : MethodName)) hown (w38 hw) (w39 hw) (w8 hw) (w40 hw) (desc_ne (by decide)) (rm := { frames := 2, cells := 2, slots := 5, locals := 33 }) (argsL := [(.int c136_)]) (rest := [(.ref b133), (.ref b133)]) (rmV l Z a0 hw _ c136_ cz n0 hc136_ SC hcz O133) 2 (by decide) (by decide) (by decide) (by decide) e136 (by rw [hml]; rfl) pd_14 rfl rfl (Nat.le_of_eq rfl) (hb hby at_249) ?_
      intro v137 T137 L137 X137 hQ137
      obtain ⟨r137, rfl, Kq137, Nq137⟩ := hQ137
      have N137 := Fr.app N130 Nq137
      have vc138 := vc134.keep Kq137 (by simp)
      have gc139 := gc135.keep Kq137 (by simp) (by simp)
      have ec140 := A133.keep Kq137
      have fc141 := F133_column.keep Kq137 (by simp)
      have fc142 := F133_query.keep Kq137 (by simp)
      have fc143 := F133_varying.keep Kq137 (by simp)
      have fc144 := F133_selected.keep Kq137 (by simp)
      have fc145 := F133_anchored.keep Kq137 (by simp)
      have fc146 := F133_joined.keep Kq137 (by simp)
      have O137 := O133.keep Kq137 all0
      have K137 := K133.trans Kq137 (by intro x hx'; exact nomatch hx')
      have hk137 := Nat.le_trans hk133 Kq137.1
      show Gl p e below _ (T137.setTop (mkF m 252 #[.val (.long p1), .second, .val (.long p2), .second, .val (.int p3), .val (.int p4), .val (.ref b1), .val (.int (1 : Int32)), .val (.int (1 : Int32)), .val (.int (1 : Int32)), .val (.ref b128), .unset, .unset, .unset] [(.ref r137), (.ref b133), (.ref b133)]))
      refine Gl.of (fun _ kq_ => XS.aload X137.here hx rfl (hb hby at_252) rfl rfl kq_) ?_
      refine Gl.of (fun _ kq_ => XS.aconstNull X137.here hx rfl (hb hby at_254) kq_) ?_
      refine Gl.of (fun _ kq_ => XS.iload X137.here hx rfl (hb hby at_255) rfl kq_) ?_
      have J270 : ∀ an : Int32, Gl p e below (GdH Z own_EL s (fun v h L => v = some (.int 1) ∧ Fr n0 L) 32 1216) (T137.setTop (mkF m 270 #[.val (.long p1), .second, .val (.long p2), .second, .val (.int p3), .val (.int p4), .val (.ref b1), .val (.int (1 : Int32)), .val (.int (1 : Int32)), .val (.int (1 : Int32)), .val (.ref b128), .unset, .unset, .unset] [(.int an), (.int (1 : Int32)), .null, (.ref b128), (.ref r137), (.ref b133), (.ref b133)])) := by
        intro an
        refine Gl.of (fun _ kq_ => XS.iload X137.here hx rfl (hb hby at_270) rfl kq_) ?_
        refine Gl.callI X137 hx hZ (y := (⟨"com/example/rulr/rulr/policy/SqlCondition$Membership", "<init>", "(Ljava/lang/String;Ljava/lang/String;Lcom/example/rulr/rulr/policy/SqlCondition$Span;IZI)V"⟩ : MethodName)) rfl hown (w52 hw) (w53 hw) (w37 hw) (w54 hw) (desc_ne (by decide)) (rm := { frames := 2, cells := 0, slots := 0, locals := 25 }) (b := b133) (argsL := [(.ref r137), (.ref b128), .null, (.int (1 : Int32)), (.int an), (.int p4)]) (rest := [(.ref b133)]) (rmM l Z a0 hw _ b133 r137 b128 (1 : Int32) an p4 n0 ec140 fc141 fc142 fc143 fc144 fc145 fc146 Gb133 O137) 1 (by decide) (by decide) (by decide) (by decide) rfl (by rw [hml]; rfl) pd_15 rfl rfl (Nat.le_of_eq rfl) (hb hby at_272) ?_
        intro v147 T147 L147 X147 hQ147
        obtain ⟨rfl, Nq147, Kq147, Fq147, Fs147⟩ := hQ147
        have N147 := Fr.app N137 Nq147
        have vc148 := vc138.keep Kq147 (fun q => ne_b1_b133 (List.mem_singleton.mp q))
        have gc149 := gc139.keep Kq147 (fun q => ne_b128_b133 (List.mem_singleton.mp q)) (fun q => ne_t130_b133 (List.mem_singleton.mp q))
        have ec150 := ec140.keep Kq147
        have O147 := O137.keep Kq147 (allS Gb133 all0)
        have K147 := K137.trans Kq147 (by intro x hx'; cases List.mem_singleton.mp hx'; exact Or.inr Jb133)
        have hk147 := Nat.le_trans hk137 Kq147.1
        show Gl p e below _ (T147.setTop (mkF m 275 #[.val (.long p1), .second, .val (.long p2), .second, .val (.int p3), .val (.int p4), .val (.ref b1), .val (.int (1 : Int32)), .val (.int (1 : Int32)), .val (.int (1 : Int32)), .val (.ref b128), .unset, .unset, .unset] [(.ref b133)]))
        refine Gl.of (fun _ kq_ => XS.astore X147.here hx rfl (hb hby at_275) rfl rfl (l' := #[.val (.long p1), .second, .val (.long p2), .second, .val (.int p3), .val (.int p4), .val (.ref b1), .val (.int (1 : Int32)), .val (.int (1 : Int32)), .val (.int (1 : Int32)), .val (.ref b128), .val (.ref b133), .unset, .unset]) rfl kq_) ?_
        refine Gl.of (fun _ kq_ => XS.aload X147.here hx rfl (hb hby at_277) rfl rfl kq_) ?_
        have hRk := hR0.trans (CHr.keep K147 (fun x hx => nomatch hx) hR0.1)
        refine Gl.callVH X147 hx hZ hS0 hk147 (own_el hw) hRk (y := (⟨"com/example/rulr/rulr/policy/SqlCondition$Membership", "condition", "()Ljava/lang/String;"⟩ : MethodName)) (z := (⟨"com/example/rulr/rulr/policy/SqlCondition$Membership", "condition", "()Ljava/lang/String;"⟩ : MethodName)) hown (w73 hw) (w74 hw) (notFace_of_selects (args := #[]) (mvT hZ (w76 hw))) (w76 hw) (w75 hw) (w77 hw) (w37 hw) (desc_ne (by decide)) (rm := { frames := 7, cells := 4, slots := 48, locals := 145 }) (b := b133) (argsL := []) (rest := []) ec150 (rmC1 l Z a0 hw _ b133 b128 t130 kb130 (nar .char c2_) (nar .char (32 : Int32)) (nar .char (87 : Int32)) (nar .char (72 : Int32)) (nar .char (69 : Int32)) (nar .char (82 : Int32)) (nar .char (69 : Int32)) (nar .char (32 : Int32)) (nar .char c26_) (nar .char c29_) (nar .char c32_) (nar .char c35_) cz fm n0 Fq147 Fs147 gc149 fb130 SC hcz SF rf O147) 0 (by decide) (by decide) (by decide) (by decide) rfl (by rw [hml]; rfl) pd_16 rfl rfl (Nat.le_of_eq rfl) (hb hby at_279) ?_
        intro v151 T151 L151 X151 hS151 hZ hown hQ151 hR151
        obtain ⟨r151, t151, kb151, rfl, SG151, Kq151, Nq151⟩ := hQ151
        have N151 := Fr.app N147 Nq151
        have vc152 := vc148.keep Kq151 (by simp)
        have gc153 := gc149.keep Kq151 (by simp) (by simp)
        have ec154 := ec150.keep Kq151
        have fc155 := Fq147.keep Kq151 (by simp)
        have fc156 := Fs147.keep Kq151 (by simp)
        have O151 := O147.keep Kq151 all0
        have K151 := K147.trans Kq151 (by intro x hx'; exact nomatch hx')
        have hk151 := Nat.le_trans hk147 Kq151.1
        show Gl p e below _ (T151.setTop (mkF m 282 #[.val (.long p1), .second, .val (.long p2), .second, .val (.int p3), .val (.int p4), .val (.ref b1), .val (.int (1 : Int32)), .val (.int (1 : Int32)), .val (.int (1 : Int32)), .val (.ref b128), .val (.ref b133), .unset, .unset] [(.ref r151)]))
        refine Gl.of (fun _ kq_ => XS.astore X151.here hx rfl (hb hby at_282) rfl rfl (l' := #[.val (.long p1), .second, .val (.long p2), .second, .val (.int p3), .val (.int p4), .val (.ref b1), .val (.int (1 : Int32)), .val (.int (1 : Int32)), .val (.int (1 : Int32)), .val (.ref b128), .val (.ref b133), .val (.ref r151), .unset]) rfl kq_) ?_
        refine Gl.of (fun _ kq_ => XS.iload X151.here hx rfl (hb hby at_284) rfl kq_) ?_
        refine Gl.of (fun _ kq_ => XS.ifYes X151.here hx rfl (pc0 := 286) (pc' := 300) rfl (hb hby at_286) rfl ((if0 _ _).trans (feq (by decide : ¬ ((1 : Int32) = (0 : Int32)))).2) (by decide) (by decide) kq_) ?_
        refine Gl.of (fun _ kq_ => XS.aload X151.here hx rfl (hb hby at_300) rfl rfl kq_) ?_
        refine Gl.of (fun _ kq_ => XS.ifnonnullYes X151.here hx rfl (pc0 := 302) (pc' := 307) rfl (hb hby at_302) rfl (by decide) (by decide) kq_) ?_
        refine Gl.of (fun _ kq_ => XS.iconst X151.here hx rfl (hb hby at_307) kq_) ?_
        show Gl p e below _ (T151.setTop (mkF m 308 #[.val (.long p1), .second, .val (.long p2), .second, .val (.int p3), .val (.int p4), .val (.ref b1), .val (.int (1 : Int32)), .val (.int (1 : Int32)), .val (.int (1 : Int32)), .val (.ref b128), .val (.ref b133), .val (.ref r151), .unset] [(.int (5 : Int32))]))
        refine Gl.of (fun _ kq_ => XS.iload X151.here hx rfl (hb hby at_308) rfl kq_) ?_
        refine Gl.of (fun _ kq_ => XS.isub X151.here hx rfl (hb hby at_310) rfl kq_) ?_
        show Gl p e below _ (T151.setTop (mkF m 311 #[.val (.long p1), .second, .val (.long p2), .second, .val (.int p3), .val (.int p4), .val (.ref b1), .val (.int (1 : Int32)), .val (.int (1 : Int32)), .val (.int (1 : Int32)), .val (.ref b128), .val (.ref b133), .val (.ref r151), .unset] [(.int (4 : Int32))]))
        refine Gl.of (fun _ kq_ => XS.istore X151.here hx rfl (hb hby at_311) rfl (l' := #[.val (.long p1), .second, .val (.long p2), .second, .val (.int p3), .val (.int p4), .val (.ref b1), .val (.int (1 : Int32)), .val (.int (1 : Int32)), .val (.int (1 : Int32)), .val (.ref b128), .val (.ref b133), .val (.ref r151), .val (.int (4 : Int32))]) rfl kq_) ?_
        refine Gl.of (fun _ kq_ => XS.aload X151.here hx rfl (hb hby at_313) rfl rfl kq_) ?_
        refine Gl.callVB X151 hx hZ (y := (⟨"java/lang/String", "length", "()I"⟩ : MethodName)) (z := (⟨"java/lang/String", "length", "()I"⟩ : MethodName)) hown (w138 hw) (w79 hw) (notFace_of_selects (args := #[]) (mvT hZ (w81 hw))) (w81 hw) (w80 hw) (desc_ne (by decide)) (W := 0) (fun v => v = some (.int (4 : Int32))) (b := r151) (argsL := []) (rest := []) SG151.1 (StrChars.Road.lenW (W := 0) hZ (own_wln hw) (kI := 4) (w7 hw) SG151.1 SG151.2.1 SG151.2.2.1 SG151.2.2.2.1 SG151.cod SG151.up (SC.ext O151.2) hcz SG151.2.2.2.2.2 (by decide) (by decide)) (by decide) (by decide) rfl (by rw [hml]; rfl) pd_5 rfl rfl (Nat.le_of_eq rfl) (hb hby at_315) ?_
        intro v157 T157 X157 e157 hv157
        subst hv157
        show Gl p e below _ (T157.setTop (mkF m 318 #[.val (.long p1), .second, .val (.long p2), .second, .val (.int p3), .val (.int p4), .val (.ref b1), .val (.int (1 : Int32)), .val (.int (1 : Int32)), .val (.int (1 : Int32)), .val (.ref b128), .val (.ref b133), .val (.ref r151), .val (.int (4 : Int32))] [(.int (4 : Int32))]))
        refine Gl.of (fun _ kq_ => XS.iload X157.here hx rfl (hb hby at_318) rfl kq_) ?_
        refine Gl.of (fun _ kq_ => XS.icmpNo X157.here hx rfl (hb hby at_320) rfl (teq (by decide : (4 : Int32) = (4 : Int32))).2 kq_) ?_
        refine Gl.of (fun _ kq_ => XS.aload X157.here hx rfl (hb hby at_323) rfl rfl kq_) ?_
        refine Gl.of (fun _ kq_ => XS.aload X157.here hx rfl (hb hby at_325) rfl rfl kq_) ?_
        refine Gl.of (fun _ kq_ => XS.iconst X157.here hx rfl (hb hby at_327) kq_) ?_
        refine Gl.of (fun _ kq_ => XS.iload X157.here hx rfl (hb hby at_328) rfl kq_) ?_
        show Gl p e below _ (T157.setTop (mkF m 330 #[.val (.long p1), .second, .val (.long p2), .second, .val (.int p3), .val (.int p4), .val (.ref b1), .val (.int (1 : Int32)), .val (.int (1 : Int32)), .val (.int (1 : Int32)), .val (.ref b128), .val (.ref b133), .val (.ref r151), .val (.int (4 : Int32))] [(.int (1 : Int32)), (.int (0 : Int32)), (.ref b1), (.ref r151)]))
        refine Gl.callS0 X157 hx hZ (y := (⟨"com/example/rulr/rulr/policy/MembershipConditionPinLaw", "at", "(Ljava/lang/String;[CII)Z"⟩ : MethodName)) hown (w139 hw) (w140 hw) (w3 hw) (w141 hw) (desc_ne (by decide)) (argsL := [(.ref r151), (.ref b1), (.int (0 : Int32)), (.int (1 : Int32))]) (rest := []) (rmA10 l Z a0 hw _ r151 t151 b1 kb151 k1 (nar .char c2_) (nar .char (32 : Int32)) (nar .char (87 : Int32)) (nar .char (72 : Int32)) (nar .char (69 : Int32)) (nar .char (82 : Int32)) (nar .char (69 : Int32)) (nar .char (32 : Int32)) (nar .char c26_) (nar .char c29_) (nar .char c32_) (nar .char c35_) cz fm n0 SG151 vc152 SC hcz SF rf O151) 0 (by decide) (by decide) e157 (by rw [hml]; rfl) pd_17 rfl rfl (Nat.le_of_eq rfl) (hb hby at_330) (by decide) (by decide) ?_
        intro v158 T158 X158 e158 hv158
        subst hv158
        show Gl p e below _ (T158.setTop (mkF m 333 #[.val (.long p1), .second, .val (.long p2), .second, .val (.int p3), .val (.int p4), .val (.ref b1), .val (.int (1 : Int32)), .val (.int (1 : Int32)), .val (.int (1 : Int32)), .val (.ref b128), .val (.ref b133), .val (.ref r151), .val (.int (4 : Int32))] [(.int (1 : Int32))]))
        refine Gl.of (fun _ kq_ => XS.ifNo X158.here hx rfl (hb hby at_333) rfl ((if0 _ _).trans (feq (by decide : ¬ ((1 : Int32) = (0 : Int32)))).1) kq_) ?_
        refine Gl.of (fun _ kq_ => XS.aload X158.here hx rfl (hb hby at_336) rfl rfl kq_) ?_
        refine Gl.of (fun _ kq_ => XS.aload X158.here hx rfl (hb hby at_338) rfl rfl kq_) ?_
        refine Gl.of (fun _ kq_ => XS.iconst X158.here hx rfl (hb hby at_340) kq_) ?_
        refine Gl.of (fun _ kq_ => XS.iload X158.here hx rfl (hb hby at_341) rfl kq_) ?_
        refine Gl.callS0 X158 hx hZ (y := (⟨"com/example/rulr/rulr/policy/MembershipConditionPinLaw", "at", "(Ljava/lang/String;[CII)Z"⟩ : MethodName)) hown (w139 hw) (w140 hw) (w3 hw) (w141 hw) (desc_ne (by decide)) (argsL := [(.ref r151), (.ref b1), (.int (1 : Int32)), (.int (1 : Int32))]) (rest := []) (rmA11 l Z a0 hw _ r151 t151 b1 kb151 k1 (nar .char c2_) (nar .char (32 : Int32)) (nar .char (87 : Int32)) (nar .char (72 : Int32)) (nar .char (69 : Int32)) (nar .char (82 : Int32)) (nar .char (69 : Int32)) (nar .char (32 : Int32)) (nar .char c26_) (nar .char c29_) (nar .char c32_) (nar .char c35_) cz fm n0 SG151 vc152 SC hcz SF rf O151) 0 (by decide) (by decide) e158 (by rw [hml]; rfl) pd_17 rfl rfl (Nat.le_of_eq rfl) (hb hby at_343) (by decide) (by decide) ?_
        intro v159 T159 X159 e159 hv159
        subst hv159
        show Gl p e below _ (T159.setTop (mkF m 346 #[.val (.long p1), .second, .val (.long p2), .second, .val (.int p3), .val (.int p4), .val (.ref b1), .val (.int (1 : Int32)), .val (.int (1 : Int32)), .val (.int (1 : Int32)), .val (.ref b128), .val (.ref b133), .val (.ref r151), .val (.int (4 : Int32))] [(.int (1 : Int32))]))
        refine Gl.of (fun _ kq_ => XS.ifNo X159.here hx rfl (hb hby at_346) rfl ((if0 _ _).trans (feq (by decide : ¬ ((1 : Int32) = (0 : Int32)))).1) kq_) ?_
        refine Gl.of (fun _ kq_ => XS.aload X159.here hx rfl (hb hby at_349) rfl rfl kq_) ?_
        refine Gl.of (fun _ kq_ => XS.aload X159.here hx rfl (hb hby at_351) rfl rfl kq_) ?_
        refine Gl.of (fun _ kq_ => XS.iconst X159.here hx rfl (hb hby at_353) kq_) ?_
        refine Gl.of (fun _ kq_ => XS.iload X159.here hx rfl (hb hby at_354) rfl kq_) ?_
        refine Gl.callS0 X159 hx hZ (y := (⟨"com/example/rulr/rulr/policy/MembershipConditionPinLaw", "at", "(Ljava/lang/String;[CII)Z"⟩ : MethodName)) hown (w139 hw) (w140 hw) (w3 hw) (w141 hw) (desc_ne (by decide)) (argsL := [(.ref r151), (.ref b1), (.int (2 : Int32)), (.int (1 : Int32))]) (rest := []) (rmA12 l Z a0 hw _ r151 t151 b1 kb151 k1 (nar .char c2_) (nar .char (32 : Int32)) (nar .char (87 : Int32)) (nar .char (72 : Int32)) (nar .char (69 : Int32)) (nar .char (82 : Int32)) (nar .char (69 : Int32)) (nar .char (32 : Int32)) (nar .char c26_) (nar .char c29_) (nar .char c32_) (nar .char c35_) cz fm n0 SG151 vc152 SC hcz SF rf O151) 0 (by decide) (by decide) e159 (by rw [hml]; rfl) pd_17 rfl rfl (Nat.le_of_eq rfl) (hb hby at_356) (by decide) (by decide) ?_
        intro v160 T160 X160 e160 hv160
        subst hv160
        show Gl p e below _ (T160.setTop (mkF m 359 #[.val (.long p1), .second, .val (.long p2), .second, .val (.int p3), .val (.int p4), .val (.ref b1), .val (.int (1 : Int32)), .val (.int (1 : Int32)), .val (.int (1 : Int32)), .val (.ref b128), .val (.ref b133), .val (.ref r151), .val (.int (4 : Int32))] [(.int (1 : Int32))]))
        refine Gl.of (fun _ kq_ => XS.ifNo X160.here hx rfl (hb hby at_359) rfl ((if0 _ _).trans (feq (by decide : ¬ ((1 : Int32) = (0 : Int32)))).1) kq_) ?_
        refine Gl.of (fun _ kq_ => XS.aload X160.here hx rfl (hb hby at_362) rfl rfl kq_) ?_
        refine Gl.of (fun _ kq_ => XS.aload X160.here hx rfl (hb hby at_364) rfl rfl kq_) ?_
        refine Gl.of (fun _ kq_ => XS.iconst X160.here hx rfl (hb hby at_366) kq_) ?_
        refine Gl.of (fun _ kq_ => XS.iload X160.here hx rfl (hb hby at_367) rfl kq_) ?_
        refine Gl.callS0 X160 hx hZ (y := (⟨"com/example/rulr/rulr/policy/MembershipConditionPinLaw", "at", "(Ljava/lang/String;[CII)Z"⟩ : MethodName)) hown (w139 hw) (w140 hw) (w3 hw) (w141 hw) (desc_ne (by decide)) (argsL := [(.ref r151), (.ref b1), (.int (3 : Int32)), (.int (1 : Int32))]) (rest := []) (rmA13 l Z a0 hw _ r151 t151 b1 kb151 k1 (nar .char c2_) (nar .char (32 : Int32)) (nar .char (87 : Int32)) (nar .char (72 : Int32)) (nar .char (69 : Int32)) (nar .char (82 : Int32)) (nar .char (69 : Int32)) (nar .char (32 : Int32)) (nar .char c26_) (nar .char c29_) (nar .char c32_) (nar .char c35_) cz fm n0 SG151 vc152 SC hcz SF rf O151) 0 (by decide) (by decide) e160 (by rw [hml]; rfl) pd_17 rfl rfl (Nat.le_of_eq rfl) (hb hby at_369) (by decide) (by decide) ?_
        intro v161 T161 X161 e161 hv161
        subst hv161
        show Gl p e below _ (T161.setTop (mkF m 372 #[.val (.long p1), .second, .val (.long p2), .second, .val (.int p3), .val (.int p4), .val (.ref b1), .val (.int (1 : Int32)), .val (.int (1 : Int32)), .val (.int (1 : Int32)), .val (.ref b128), .val (.ref b133), .val (.ref r151), .val (.int (4 : Int32))] [(.int (1 : Int32))]))
        refine Gl.of (fun _ kq_ => XS.ifNo X161.here hx rfl (hb hby at_372) rfl ((if0 _ _).trans (feq (by decide : ¬ ((1 : Int32) = (0 : Int32)))).1) kq_) ?_
        refine Gl.of (fun _ kq_ => XS.aload X161.here hx rfl (hb hby at_375) rfl rfl kq_) ?_
        refine Gl.of (fun _ kq_ => XS.aload X161.here hx rfl (hb hby at_377) rfl rfl kq_) ?_
        refine Gl.of (fun _ kq_ => XS.iconst X161.here hx rfl (hb hby at_379) kq_) ?_
        refine Gl.of (fun _ kq_ => XS.iload X161.here hx rfl (hb hby at_380) rfl kq_) ?_
        refine Gl.callS0 X161 hx hZ (y := (⟨"com/example/rulr/rulr/policy/MembershipConditionPinLaw", "at", "(Ljava/lang/String;[CII)Z"⟩ : MethodName)) hown (w139 hw) (w140 hw) (w3 hw) (w141 hw) (desc_ne (by decide)) (argsL := [(.ref r151), (.ref b1), (.int (4 : Int32)), (.int (1 : Int32))]) (rest := []) (rmA14 l Z a0 hw _ r151 t151 b1 kb151 k1 (nar .char c2_) (nar .char (32 : Int32)) (nar .char (87 : Int32)) (nar .char (72 : Int32)) (nar .char (69 : Int32)) (nar .char (82 : Int32)) (nar .char (69 : Int32)) (nar .char (32 : Int32)) (nar .char c26_) (nar .char c29_) (nar .char c32_) (nar .char c35_) cz fm n0 SG151 vc152 SC hcz SF rf O151) 0 (by decide) (by decide) e161 (by rw [hml]; rfl) pd_17 rfl rfl (Nat.le_of_eq rfl) (hb hby at_382) (by decide) (by decide) ?_
        intro v162 T162 X162 e162 hv162
        subst hv162
        show Gl p e below _ (T162.setTop (mkF m 385 #[.val (.long p1), .second, .val (.long p2), .second, .val (.int p3), .val (.int p4), .val (.ref b1), .val (.int (1 : Int32)), .val (.int (1 : Int32)), .val (.int (1 : Int32)), .val (.ref b128), .val (.ref b133), .val (.ref r151), .val (.int (4 : Int32))] [(.int (1 : Int32))]))
        refine Gl.of (fun _ kq_ => XS.ifNo X162.here hx rfl (hb hby at_385) rfl ((if0 _ _).trans (feq (by decide : ¬ ((1 : Int32) = (0 : Int32)))).1) kq_) ?_
        refine Gl.of (fun _ kq_ => XS.iconst X162.here hx rfl (hb hby at_388) kq_) ?_
        refine Gl.of (fun _ kq_ => XS.goto X162.here hx rfl (pc0 := 389) (pc' := 393) rfl (hb hby at_389) (by decide) (by decide) kq_) ?_
        exact Gl.retNH X162 hx hlk hret (by simp) (hb hby at_393) e162 (⟨rfl, N151⟩) hS151 (Nat.le_refl _) hZ (own_el hw) hR151 (by decide) (by decide)
      refine Gl.of (fun _ kq_ => XS.iload X137.here hx rfl (hb hby at_257) rfl kq_) ?_
      refine Gl.of (fun _ kq_ => XS.bipush X137.here hx rfl (hb hby at_259) kq_) ?_
      refine Gl.of (fun _ kq_ => XS.iand X137.here hx rfl (hb hby at_261) rfl kq_) ?_
      show Gl p e below _ (T137.setTop (mkF m 262 #[.val (.long p1), .second, .val (.long p2), .second, .val (.int p3), .val (.int p4), .val (.ref b1), .val (.int (1 : Int32)), .val (.int (1 : Int32)), .val (.int (1 : Int32)), .val (.ref b128), .unset, .unset, .unset] [(.int (p3 &&& (8 : Int32))), (.int (1 : Int32)), .null, (.ref b128), (.ref r137), (.ref b133), (.ref b133)]))
      by_cases hc262_163 : (p3 &&& (8 : Int32)) = (0 : Int32)
      · refine Gl.of (fun _ kq_ => XS.ifYes X137.here hx rfl (pc0 := 262) (pc' := 269) rfl (hb hby at_262) rfl ((if0 _ _).trans (teq hc262_163).1) (by decide) (by decide) kq_) ?_
        refine Gl.of (fun _ kq_ => XS.iconst X137.here hx rfl (hb hby at_269) kq_) ?_
        show Gl p e below _ (T137.setTop (mkF m 270 #[.val (.long p1), .second, .val (.long p2), .second, .val (.int p3), .val (.int p4), .val (.ref b1), .val (.int (1 : Int32)), .val (.int (1 : Int32)), .val (.int (1 : Int32)), .val (.ref b128), .unset, .unset, .unset] [(.int (0 : Int32)), (.int (1 : Int32)), .null, (.ref b128), (.ref r137), (.ref b133), (.ref b133)]))
        exact J270 _
      · refine Gl.of (fun _ kq_ => XS.ifNo X137.here hx rfl (hb hby at_262) rfl ((if0 _ _).trans (feq hc262_163).1) kq_) ?_
        refine Gl.of (fun _ kq_ => XS.iconst X137.here hx rfl (hb hby at_265) kq_) ?_
        refine Gl.of (fun _ kq_ => XS.goto X137.here hx rfl (pc0 := 266) (pc' := 270) rfl (hb hby at_266) (by decide) (by decide) kq_) ?_
        show Gl p e below _ (T137.setTop (mkF m 270 #[.val (.long p1), .second, .val (.long p2), .second, .val (.int p3), .val (.int p4), .val (.ref b1), .val (.int (1 : Int32)), .val (.int (1 : Int32)), .val (.int (1 : Int32)), .val (.ref b128), .unset, .unset, .unset] [(.int (1 : Int32)), (.int (1 : Int32)), .null, (.ref b128), (.ref r137), (.ref b133), (.ref b133)]))
        exact J270 _
    · rw [hq4]
      refine Gl.of (fun _ kq_ => XS.aload X37.here hx rfl (hb hby at_155) rfl rfl kq_) ?_
      refine Gl.of (fun _ kq_ => XS.iload X37.here hx rfl (hb hby at_157) rfl kq_) ?_
      refine Gl.of (fun _ kq_ => XS.bipush X37.here hx rfl (hb hby at_159) kq_) ?_
      obtain ⟨zcl164, zAr164, zq164, zS164, zM164, zH164, zG164⟩ := id V37
      obtain ⟨T165, h165, X165, e165, W165, st165⟩ := stC X37 hx hZ e37 zAr164 (j := (2 : Int32)) (inb_of zS164 ⟨by decide, by decide⟩) (g := (mkF m 161 #[.val (.long p1), .second, .val (.long p2), .second, .val (.int p3), .val (.int p4), .val (.ref b1), .val (.int (1 : Int32)), .val (.int (2 : Int32)), .unset, .unset, .unset, .unset, .unset] [(.int (32 : Int32)), (.int (2 : Int32)), (.ref b1)])) rfl rfl (hb hby at_161)
      refine Gl.of st165 ?_
      have V165 : Arv Z h165 b1 k1 .char (12 : Int32) [(.int (nar .char c2_)), (.int (nar .char c5_)), (.int (nar .char (32 : Int32))), (.int (nar .char c11_)), (.int (nar .char c14_)), (.int (nar .char c17_)), (.int (nar .char c20_)), (.int (nar .char c23_)), (.int (nar .char c26_)), (.int (nar .char c29_)), (.int (nar .char c32_)), (.int (nar .char c35_))] (.int (0 : Int32)) := Arv.set zAr164 zq164 zS164 zM164 zH164 zG164 (fits_nar_char _) W165 2 rfl (Nat.le_of_ble_eq_true rfl)
      have N165 := Fr.snoc X165 N37 Gb1
      have O165 := O37.wr W165 Gb1
      have K165 := K37.wr W165 (Or.inr Jb1)
      have hk165 := Nat.le_trans hk37 (Keep.of_wr W165).1
      show Gl p e below _ (T165.setTop (mkF m 162 #[.val (.long p1), .second, .val (.long p2), .second, .val (.int p3), .val (.int p4), .val (.ref b1), .val (.int (1 : Int32)), .val (.int (2 : Int32)), .unset, .unset, .unset, .unset, .unset] []))
      refine Gl.of (fun _ kq_ => XS.aload X165.here hx rfl (hb hby at_162) rfl rfl kq_) ?_
      refine Gl.of (fun _ kq_ => XS.iload X165.here hx rfl (hb hby at_164) rfl kq_) ?_
      refine Gl.of (fun _ kq_ => XS.iconst X165.here hx rfl (hb hby at_166) kq_) ?_
      refine Gl.of (fun _ kq_ => XS.iadd X165.here hx rfl (hb hby at_167) rfl kq_) ?_
      show Gl p e below _ (T165.setTop (mkF m 168 #[.val (.long p1), .second, .val (.long p2), .second, .val (.int p3), .val (.int p4), .val (.ref b1), .val (.int (1 : Int32)), .val (.int (2 : Int32)), .unset, .unset, .unset, .unset, .unset] [(.int (3 : Int32)), (.ref b1)]))
      refine Gl.of (fun _ kq_ => XS.bipush X165.here hx rfl (hb hby at_168) kq_) ?_
      obtain ⟨zcl166, zAr166, zq166, zS166, zM166, zH166, zG166⟩ := id V165
      obtain ⟨T167, h167, X167, e167, W167, st167⟩ := stC X165 hx hZ e165 zAr166 (j := (3 : Int32)) (inb_of zS166 ⟨by decide, by decide⟩) (g := (mkF m 170 #[.val (.long p1), .second, .val (.long p2), .second, .val (.int p3), .val (.int p4), .val (.ref b1), .val (.int (1 : Int32)), .val (.int (2 : Int32)), .unset, .unset, .unset, .unset, .unset] [(.int (87 : Int32)), (.int (3 : Int32)), (.ref b1)])) rfl rfl (hb hby at_170)
      refine Gl.of st167 ?_
      have V167 : Arv Z h167 b1 k1 .char (12 : Int32) [(.int (nar .char c2_)), (.int (nar .char c5_)), (.int (nar .char (32 : Int32))), (.int (nar .char (87 : Int32))), (.int (nar .char c14_)), (.int (nar .char c17_)), (.int (nar .char c20_)), (.int (nar .char c23_)), (.int (nar .char c26_)), (.int (nar .char c29_)), (.int (nar .char c32_)), (.int (nar .char c35_))] (.int (0 : Int32)) := Arv.set zAr166 zq166 zS166 zM166 zH166 zG166 (fits_nar_char _) W167 3 rfl (Nat.le_of_ble_eq_true rfl)
      have N167 := Fr.snoc X167 N165 Gb1
      have O167 := O165.wr W167 Gb1
      have K167 := K165.wr W167 (Or.inr Jb1)
      have hk167 := Nat.le_trans hk165 (Keep.of_wr W167).1
      show Gl p e below _ (T167.setTop (mkF m 171 #[.val (.long p1), .second, .val (.long p2), .second, .val (.int p3), .val (.int p4), .val (.ref b1), .val (.int (1 : Int32)), .val (.int (2 : Int32)), .unset, .unset, .unset, .unset, .unset] []))
      refine Gl.of (fun _ kq_ => XS.aload X167.here hx rfl (hb hby at_171) rfl rfl kq_) ?_
      refine Gl.of (fun _ kq_ => XS.iload X167.here hx rfl (hb hby at_173) rfl kq_) ?_
      refine Gl.of (fun _ kq_ => XS.iconst X167.here hx rfl (hb hby at_175) kq_) ?_
      refine Gl.of (fun _ kq_ => XS.iadd X167.here hx rfl (hb hby at_176) rfl kq_) ?_
      show Gl p e below _ (T167.setTop (mkF m 177 #[.val (.long p1), .second, .val (.long p2), .second, .val (.int p3), .val (.int p4), .val (.ref b1), .val (.int (1 : Int32)), .val (.int (2 : Int32)), .unset, .unset, .unset, .unset, .unset] [(.int (4 : Int32)), (.ref b1)]))
      refine Gl.of (fun _ kq_ => XS.bipush X167.here hx rfl (hb hby at_177) kq_) ?_
      obtain ⟨zcl168, zAr168, zq168, zS168, zM168, zH168, zG168⟩ := id V167
      obtain ⟨T169, h169, X169, e169, W169, st169⟩ := stC X167 hx hZ e167 zAr168 (j := (4 : Int32)) (inb_of zS168 ⟨by decide, by decide⟩) (g := (mkF m 179 #[.val (.long p1), .second, .val (.long p2), .second, .val (.int p3), .val (.int p4), .val (.ref b1), .val (.int (1 : Int32)), .val (.int (2 : Int32)), .unset, .unset, .unset, .unset, .unset] [(.int (72 : Int32)), (.int (4 : Int32)), (.ref b1)])) rfl rfl (hb hby at_179)
      refine Gl.of st169 ?_
      have V169 : Arv Z h169 b1 k1 .char (12 : Int32) [(.int (nar .char c2_)), (.int (nar .char c5_)), (.int (nar .char (32 : Int32))), (.int (nar .char (87 : Int32))), (.int (nar .char (72 : Int32))), (.int (nar .char c17_)), (.int (nar .char c20_)), (.int (nar .char c23_)), (.int (nar .char c26_)), (.int (nar .char c29_)), (.int (nar .char c32_)), (.int (nar .char c35_))] (.int (0 : Int32)) := Arv.set zAr168 zq168 zS168 zM168 zH168 zG168 (fits_nar_char _) W169 4 rfl (Nat.le_of_ble_eq_true rfl)
      have N169 := Fr.snoc X169 N167 Gb1
      have O169 := O167.wr W169 Gb1
      have K169 := K167.wr W169 (Or.inr Jb1)
      have hk169 := Nat.le_trans hk167 (Keep.of_wr W169).1
      show Gl p e below _ (T169.setTop (mkF m 180 #[.val (.long p1), .second, .val (.long p2), .second, .val (.int p3), .val (.int p4), .val (.ref b1), .val (.int (1 : Int32)), .val (.int (2 : Int32)), .unset, .unset, .unset, .unset, .unset] []))
      refine Gl.of (fun _ kq_ => XS.aload X169.here hx rfl (hb hby at_180) rfl rfl kq_) ?_
      refine Gl.of (fun _ kq_ => XS.iload X169.here hx rfl (hb hby at_182) rfl kq_) ?_
      refine Gl.of (fun _ kq_ => XS.iconst X169.here hx rfl (hb hby at_184) kq_) ?_
      refine Gl.of (fun _ kq_ => XS.iadd X169.here hx rfl (hb hby at_185) rfl kq_) ?_
      show Gl p e below _ (T169.setTop (mkF m 186 #[.val (.long p1), .second, .val (.long p2), .second, .val (.int p3), .val (.int p4), .val (.ref b1), .val (.int (1 : Int32)), .val (.int (2 : Int32)), .unset, .unset, .unset, .unset, .unset] [(.int (5 : Int32)), (.ref b1)]))
      refine Gl.of (fun _ kq_ => XS.bipush X169.here hx rfl (hb hby at_186) kq_) ?_
      obtain ⟨zcl170, zAr170, zq170, zS170, zM170, zH170, zG170⟩ := id V169
      obtain ⟨T171, h171, X171, e171, W171, st171⟩ := stC X169 hx hZ e169 zAr170 (j := (5 : Int32)) (inb_of zS170 ⟨by decide, by decide⟩) (g := (mkF m 188 #[.val (.long p1), .second, .val (.long p2), .second, .val (.int p3), .val (.int p4), .val (.ref b1), .val (.int (1 : Int32)), .val (.int (2 : Int32)), .unset, .unset, .unset, .unset, .unset] [(.int (69 : Int32)), (.int (5 : Int32)), (.ref b1)])) rfl rfl (hb hby at_188)
      refine Gl.of st171 ?_
      have V171 : Arv Z h171 b1 k1 .char (12 : Int32) [(.int (nar .char c2_)), (.int (nar .char c5_)), (.int (nar .char (32 : Int32))), (.int (nar .char (87 : Int32))), (.int (nar .char (72 : Int32))), (.int (nar .char (69 : Int32))), (.int (nar .char c20_)), (.int (nar .char c23_)), (.int (nar .char c26_)), (.int (nar .char c29_)), (.int (nar .char c32_)), (.int (nar .char c35_))] (.int (0 : Int32)) := Arv.set zAr170 zq170 zS170 zM170 zH170 zG170 (fits_nar_char _) W171 5 rfl (Nat.le_of_ble_eq_true rfl)
      have N171 := Fr.snoc X171 N169 Gb1
      have O171 := O169.wr W171 Gb1
      have K171 := K169.wr W171 (Or.inr Jb1)
      have hk171 := Nat.le_trans hk169 (Keep.of_wr W171).1
      show Gl p e below _ (T171.setTop (mkF m 189 #[.val (.long p1), .second, .val (.long p2), .second, .val (.int p3), .val (.int p4), .val (.ref b1), .val (.int (1 : Int32)), .val (.int (2 : Int32)), .unset, .unset, .unset, .unset, .unset] []))
      refine Gl.of (fun _ kq_ => XS.aload X171.here hx rfl (hb hby at_189) rfl rfl kq_) ?_
      refine Gl.of (fun _ kq_ => XS.iload X171.here hx rfl (hb hby at_191) rfl kq_) ?_
      refine Gl.of (fun _ kq_ => XS.iconst X171.here hx rfl (hb hby at_193) kq_) ?_
      refine Gl.of (fun _ kq_ => XS.iadd X171.here hx rfl (hb hby at_194) rfl kq_) ?_
      show Gl p e below _ (T171.setTop (mkF m 195 #[.val (.long p1), .second, .val (.long p2), .second, .val (.int p3), .val (.int p4), .val (.ref b1), .val (.int (1 : Int32)), .val (.int (2 : Int32)), .unset, .unset, .unset, .unset, .unset] [(.int (6 : Int32)), (.ref b1)]))
      refine Gl.of (fun _ kq_ => XS.bipush X171.here hx rfl (hb hby at_195) kq_) ?_
      obtain ⟨zcl172, zAr172, zq172, zS172, zM172, zH172, zG172⟩ := id V171
      obtain ⟨T173, h173, X173, e173, W173, st173⟩ := stC X171 hx hZ e171 zAr172 (j := (6 : Int32)) (inb_of zS172 ⟨by decide, by decide⟩) (g := (mkF m 197 #[.val (.long p1), .second, .val (.long p2), .second, .val (.int p3), .val (.int p4), .val (.ref b1), .val (.int (1 : Int32)), .val (.int (2 : Int32)), .unset, .unset, .unset, .unset, .unset] [(.int (82 : Int32)), (.int (6 : Int32)), (.ref b1)])) rfl rfl (hb hby at_197)
      refine Gl.of st173 ?_
      have V173 : Arv Z h173 b1 k1 .char (12 : Int32) [(.int (nar .char c2_)), (.int (nar .char c5_)), (.int (nar .char (32 : Int32))), (.int (nar .char (87 : Int32))), (.int (nar .char (72 : Int32))), (.int (nar .char (69 : Int32))), (.int (nar .char (82 : Int32))), (.int (nar .char c23_)), (.int (nar .char c26_)), (.int (nar .char c29_)), (.int (nar .char c32_)), (.int (nar .char c35_))] (.int (0 : Int32)) := Arv.set zAr172 zq172 zS172 zM172 zH172 zG172 (fits_nar_char _) W173 6 rfl (Nat.le_of_ble_eq_true rfl)
      have N173 := Fr.snoc X173 N171 Gb1
      have O173 := O171.wr W173 Gb1
      have K173 := K171.wr W173 (Or.inr Jb1)
      have hk173 := Nat.le_trans hk171 (Keep.of_wr W173).1
      show Gl p e below _ (T173.setTop (mkF m 198 #[.val (.long p1), .second, .val (.long p2), .second, .val (.int p3), .val (.int p4), .val (.ref b1), .val (.int (1 : Int32)), .val (.int (2 : Int32)), .unset, .unset, .unset, .unset, .unset] []))
      refine Gl.of (fun _ kq_ => XS.aload X173.here hx rfl (hb hby at_198) rfl rfl kq_) ?_
      refine Gl.of (fun _ kq_ => XS.iload X173.here hx rfl (hb hby at_200) rfl kq_) ?_
      refine Gl.of (fun _ kq_ => XS.iconst X173.here hx rfl (hb hby at_202) kq_) ?_
      refine Gl.of (fun _ kq_ => XS.iadd X173.here hx rfl (hb hby at_203) rfl kq_) ?_
      show Gl p e below _ (T173.setTop (mkF m 204 #[.val (.long p1), .second, .val (.long p2), .second, .val (.int p3), .val (.int p4), .val (.ref b1), .val (.int (1 : Int32)), .val (.int (2 : Int32)), .unset, .unset, .unset, .unset, .unset] [(.int (7 : Int32)), (.ref b1)]))
      refine Gl.of (fun _ kq_ => XS.bipush X173.here hx rfl (hb hby at_204) kq_) ?_
      obtain ⟨zcl174, zAr174, zq174, zS174, zM174, zH174, zG174⟩ := id V173
      obtain ⟨T175, h175, X175, e175, W175, st175⟩ := stC X173 hx hZ e173 zAr174 (j := (7 : Int32)) (inb_of zS174 ⟨by decide, by decide⟩) (g := (mkF m 206 #[.val (.long p1), .second, .val (.long p2), .second, .val (.int p3), .val (.int p4), .val (.ref b1), .val (.int (1 : Int32)), .val (.int (2 : Int32)), .unset, .unset, .unset, .unset, .unset] [(.int (69 : Int32)), (.int (7 : Int32)), (.ref b1)])) rfl rfl (hb hby at_206)
      refine Gl.of st175 ?_
      have V175 : Arv Z h175 b1 k1 .char (12 : Int32) [(.int (nar .char c2_)), (.int (nar .char c5_)), (.int (nar .char (32 : Int32))), (.int (nar .char (87 : Int32))), (.int (nar .char (72 : Int32))), (.int (nar .char (69 : Int32))), (.int (nar .char (82 : Int32))), (.int (nar .char (69 : Int32))), (.int (nar .char c26_)), (.int (nar .char c29_)), (.int (nar .char c32_)), (.int (nar .char c35_))] (.int (0 : Int32)) := Arv.set zAr174 zq174 zS174 zM174 zH174 zG174 (fits_nar_char _) W175 7 rfl (Nat.le_of_ble_eq_true rfl)
      have N175 := Fr.snoc X175 N173 Gb1
      have O175 := O173.wr W175 Gb1
      have K175 := K173.wr W175 (Or.inr Jb1)
      have hk175 := Nat.le_trans hk173 (Keep.of_wr W175).1
      show Gl p e below _ (T175.setTop (mkF m 207 #[.val (.long p1), .second, .val (.long p2), .second, .val (.int p3), .val (.int p4), .val (.ref b1), .val (.int (1 : Int32)), .val (.int (2 : Int32)), .unset, .unset, .unset, .unset, .unset] []))
      refine Gl.of (fun _ kq_ => XS.aload X175.here hx rfl (hb hby at_207) rfl rfl kq_) ?_
      refine Gl.of (fun _ kq_ => XS.iload X175.here hx rfl (hb hby at_209) rfl kq_) ?_
      refine Gl.of (fun _ kq_ => XS.bipush X175.here hx rfl (hb hby at_211) kq_) ?_
      refine Gl.of (fun _ kq_ => XS.iadd X175.here hx rfl (hb hby at_213) rfl kq_) ?_
      show Gl p e below _ (T175.setTop (mkF m 214 #[.val (.long p1), .second, .val (.long p2), .second, .val (.int p3), .val (.int p4), .val (.ref b1), .val (.int (1 : Int32)), .val (.int (2 : Int32)), .unset, .unset, .unset, .unset, .unset] [(.int (8 : Int32)), (.ref b1)]))
      refine Gl.of (fun _ kq_ => XS.bipush X175.here hx rfl (hb hby at_214) kq_) ?_
      obtain ⟨zcl176, zAr176, zq176, zS176, zM176, zH176, zG176⟩ := id V175
      obtain ⟨T177, h177, X177, e177, W177, st177⟩ := stC X175 hx hZ e175 zAr176 (j := (8 : Int32)) (inb_of zS176 ⟨by decide, by decide⟩) (g := (mkF m 216 #[.val (.long p1), .second, .val (.long p2), .second, .val (.int p3), .val (.int p4), .val (.ref b1), .val (.int (1 : Int32)), .val (.int (2 : Int32)), .unset, .unset, .unset, .unset, .unset] [(.int (32 : Int32)), (.int (8 : Int32)), (.ref b1)])) rfl rfl (hb hby at_216)
      refine Gl.of st177 ?_
      have V177 : Arv Z h177 b1 k1 .char (12 : Int32) [(.int (nar .char c2_)), (.int (nar .char c5_)), (.int (nar .char (32 : Int32))), (.int (nar .char (87 : Int32))), (.int (nar .char (72 : Int32))), (.int (nar .char (69 : Int32))), (.int (nar .char (82 : Int32))), (.int (nar .char (69 : Int32))), (.int (nar .char (32 : Int32))), (.int (nar .char c29_)), (.int (nar .char c32_)), (.int (nar .char c35_))] (.int (0 : Int32)) := Arv.set zAr176 zq176 zS176 zM176 zH176 zG176 (fits_nar_char _) W177 8 rfl (Nat.le_of_ble_eq_true rfl)
      have N177 := Fr.snoc X177 N175 Gb1
      have O177 := O175.wr W177 Gb1
      have K177 := K175.wr W177 (Or.inr Jb1)
      have hk177 := Nat.le_trans hk175 (Keep.of_wr W177).1
      show Gl p e below _ (T177.setTop (mkF m 217 #[.val (.long p1), .second, .val (.long p2), .second, .val (.int p3), .val (.int p4), .val (.ref b1), .val (.int (1 : Int32)), .val (.int (2 : Int32)), .unset, .unset, .unset, .unset, .unset] []))
      refine Gl.of (fun _ kq_ => XS.iload X177.here hx rfl (hb hby at_217) rfl kq_) ?_
      refine Gl.of (fun _ kq_ => XS.istore X177.here hx rfl (hb hby at_219) rfl (l' := #[.val (.long p1), .second, .val (.long p2), .second, .val (.int p3), .val (.int p4), .val (.ref b1), .val (.int (1 : Int32)), .val (.int (2 : Int32)), .val (.int (2 : Int32)), .unset, .unset, .unset, .unset]) rfl kq_) ?_
      refine Gl.of (fun _ kq_ => XS.goto X177.here hx rfl (pc0 := 221) (pc' := 228) rfl (hb hby at_221) (by decide) (by decide) kq_) ?_
      obtain ⟨T178, h178, X178, e178, E178, A178, D178, -, st178⟩ := newO X177 hx hZ hown (w6 hw) (w7 hw) (w8 hw) e177 (g := (mkF m 228 #[.val (.long p1), .second, .val (.long p2), .second, .val (.int p3), .val (.int p4), .val (.ref b1), .val (.int (1 : Int32)), .val (.int (2 : Int32)), .val (.int (2 : Int32)), .unset, .unset, .unset, .unset] [])) rfl (hb hby at_228) (by decide) (by decide)
      obtain ⟨b178, g178⟩ : ∃ z, z = h177.size := ⟨_, rfl⟩
      rw [← g178] at A178 D178 st178
      refine Gl.of st178 ?_
      have Gb178 : n0 ≤ b178 := Nat.le_trans (O177.1 ▸ O177.2.1) (Nat.le_of_eq g178.symm)
      have Jb178 : h0.size ≤ b178 := Nat.le_trans K177.1 (Nat.le_of_eq g178.symm)
      have ne_b1_b178 : b1 ≠ b178 := Nat.ne_of_lt (Nat.lt_of_lt_of_le V177.lt (Nat.le_of_eq g178.symm))
      have vc179 := V177.ext E178
      have O178 := O177.ext E178
      have K178 := K177.ext E178
      have hk178 := Nat.le_trans hk177 E178.1
      have F178_coder : Fld Z h178 b178 "java/lang/String" "coder" "B" (.int (0 : Int32)) := D178 (Or.inr (w32 hw)) (ty := .byte) (by decide)
      have F178_value : Fld Z h178 b178 "java/lang/String" "value" "[B" .null := D178 (Or.inr (w34 hw)) (ty := (.array .byte)) (by decide)
      show Gl p e below _ (T178.setTop (mkF m 231 #[.val (.long p1), .second, .val (.long p2), .second, .val (.int p3), .val (.int p4), .val (.ref b1), .val (.int (1 : Int32)), .val (.int (2 : Int32)), .val (.int (2 : Int32)), .unset, .unset, .unset, .unset] [(.ref b178)]))
      refine Gl.of (fun _ kq_ => XS.dup X178.here hx rfl (hb hby at_231) rfl rfl kq_) ?_
      refine Gl.of (fun _ kq_ => XS.aload X178.here hx rfl (hb hby at_232) rfl rfl kq_) ?_
      have hp180 : ∀ c ∈ ([(nar .char c2_), (nar .char c5_), (nar .char (32 : Int32)), (nar .char (87 : Int32)), (nar .char (72 : Int32)), (nar .char (69 : Int32)), (nar .char (82 : Int32)), (nar .char (69 : Int32)), (nar .char (32 : Int32)), (nar .char c29_), (nar .char c32_), (nar .char c35_)] : List Int32), ¬ c < 0 ∧ ¬ (255 : Int32) < c := own_cons (own_nr hc2_) (own_cons (own_nr hc5_) (own_cons (by decide) (own_cons (by decide) (own_cons (by decide) (own_cons (by decide) (own_cons (by decide) (own_cons (by decide) (own_cons (by decide) (own_cons (own_nr hc29_) (own_cons (own_nr hc32_) (own_cons (own_nr hc35_) (own_nil))))))))))))
      refine Gl.callIB X178 hx hZ (y := (⟨"java/lang/String", "<init>", "([C)V"⟩ : MethodName)) rfl hown (w9 hw) (w10 hw) (w11 hw) (desc_ne (by decide)) (C := 1) (N := 12) (W := 1) (own_QB Z b178 (12 : Int32) ((([(nar .char c2_), (nar .char c5_), (nar .char (32 : Int32)), (nar .char (87 : Int32)), (nar .char (72 : Int32)), (nar .char (69 : Int32)), (nar .char (82 : Int32)), (nar .char (69 : Int32)), (nar .char (32 : Int32)), (nar .char c29_), (nar .char c32_), (nar .char c35_)] : List Int32)).map (fun c => c.toInt8.toInt32)) h178 n0) (b := b178) (argsL := [(.ref b1)]) (rest := [(.ref b178)]) (own_backB (W := 1) hZ (own_ws hw) (kI := 4) (w7 hw) (cs := ([(nar .char c2_), (nar .char c5_), (nar .char (32 : Int32)), (nar .char (87 : Int32)), (nar .char (72 : Int32)), (nar .char (69 : Int32)), (nar .char (82 : Int32)), (nar .char (69 : Int32)), (nar .char (32 : Int32)), (nar .char c29_), (nar .char c32_), (nar .char c35_)] : List Int32)) (bs := (([(nar .char c2_), (nar .char c5_), (nar .char (32 : Int32)), (nar .char (87 : Int32)), (nar .char (72 : Int32)), (nar .char (69 : Int32)), (nar .char (82 : Int32)), (nar .char (69 : Int32)), (nar .char (32 : Int32)), (nar .char c29_), (nar .char c32_), (nar .char c35_)] : List Int32)).map (fun c => c.toInt8.toInt32)) (n := 12) Gb178 (O178.1 ▸ O178.2.1) A178 F178_value F178_coder vc179 (SC.ext O178.2) hcz rfl rfl (by decide) (by decide) hp180 rfl (by decide) (by decide)) (by decide) (by decide) e178 (by rw [hml]; rfl) pd_13 rfl rfl (Nat.le_of_eq rfl) (hb hby at_234) ?_
      intro v180 T180 L180 X180 hQ180
      obtain ⟨rfl, Nq180, Kq180, Eq180, Cq180, t180, kb180, Gt180, Ht180, nt180, Vq180, fb180, Bq180⟩ := hQ180
      have N180 := Fr.app N177 Nq180
      have Gt180 : n0 ≤ t180 := Gt180
      have ne_b1_t180 : b1 ≠ t180 := Nat.ne_of_lt (Nat.lt_of_lt_of_le vc179.lt Ht180)
      have ne_b178_t180 : b178 ≠ t180 := Nat.ne_of_lt (Nat.lt_of_lt_of_le A178.lt Ht180)
      have Jt180 : h0.size ≤ t180 := Nat.le_trans K178.1 Ht180
      have vc181 := vc179.keep Kq180 (fun q => ne_b1_b178 (List.mem_singleton.mp q))
      have ec182 := A178.keep Kq180
      have O180 := O178.keep Kq180 (allS Gb178 all0)
      have K180 := K178.trans Kq180 (by intro x hx'; cases List.mem_singleton.mp hx'; exact Or.inr Jb178)
      have hk180 := Nat.le_trans hk178 Kq180.1
      have SG180 : Strg Z T180.heap b178 t180 kb180 ([(nar .char c2_), (nar .char c5_), (nar .char (32 : Int32)), (nar .char (87 : Int32)), (nar .char (72 : Int32)), (nar .char (69 : Int32)), (nar .char (82 : Int32)), (nar .char (69 : Int32)), (nar .char (32 : Int32)), (nar .char c29_), (nar .char c32_), (nar .char c35_)] : List Int32) := ⟨Eq180, Vq180, Cq180, Bq180, hp180, Nat.le_of_ble_eq_true rfl⟩
      show Gl p e below _ (T180.setTop (mkF m 237 #[.val (.long p1), .second, .val (.long p2), .second, .val (.int p3), .val (.int p4), .val (.ref b1), .val (.int (1 : Int32)), .val (.int (2 : Int32)), .val (.int (2 : Int32)), .unset, .unset, .unset, .unset] [(.ref b178)]))
      refine Gl.of (fun _ kq_ => XS.astore X180.here hx rfl (hb hby at_237) rfl rfl (l' := #[.val (.long p1), .second, .val (.long p2), .second, .val (.int p3), .val (.int p4), .val (.ref b1), .val (.int (1 : Int32)), .val (.int (2 : Int32)), .val (.int (2 : Int32)), .val (.ref b178), .unset, .unset, .unset]) rfl kq_) ?_
      obtain ⟨T183, h183, X183, e183, E183, A183, D183, -, st183⟩ := newO X180 hx hZ hown (w35 hw) (w36 hw) (w37 hw) rfl (g := (mkF m 239 #[.val (.long p1), .second, .val (.long p2), .second, .val (.int p3), .val (.int p4), .val (.ref b1), .val (.int (1 : Int32)), .val (.int (2 : Int32)), .val (.int (2 : Int32)), .val (.ref b178), .unset, .unset, .unset] [])) rfl (hb hby at_239) (by decide) (by decide)
      obtain ⟨b183, g183⟩ : ∃ z, z = T180.heap.size := ⟨_, rfl⟩
      rw [← g183] at A183 D183 st183
      refine Gl.of st183 ?_
      have Gb183 : n0 ≤ b183 := Nat.le_trans (O180.1 ▸ O180.2.1) (Nat.le_of_eq g183.symm)
      have Jb183 : h0.size ≤ b183 := Nat.le_trans K180.1 (Nat.le_of_eq g183.symm)
      have ne_b1_b183 : b1 ≠ b183 := Nat.ne_of_lt (Nat.lt_of_lt_of_le vc181.lt (Nat.le_of_eq g183.symm))
      have ne_b178_b183 : b178 ≠ b183 := Nat.ne_of_lt (Nat.lt_of_lt_of_le SG180.lt (Nat.le_of_eq g183.symm))
      have ne_t180_b183 : t180 ≠ b183 := Nat.ne_of_lt (Nat.lt_of_lt_of_le SG180.lt' (Nat.le_of_eq g183.symm))
      have vc184 := vc181.ext E183
      have gc185 := SG180.ext E183
      have O183 := O180.ext E183
      have K183 := K180.ext E183
      have hk183 := Nat.le_trans hk180 E183.1
      have F183_column : Fld Z h183 b183 "com/example/rulr/rulr/policy/SqlCondition$Membership" "column" "Ljava/lang/String;" .null := D183 (Or.inr (w62 hw)) (ty := (.object "java/lang/String")) (by decide)
      have F183_query : Fld Z h183 b183 "com/example/rulr/rulr/policy/SqlCondition$Membership" "query" "Ljava/lang/String;" .null := D183 (Or.inr (w64 hw)) (ty := (.object "java/lang/String")) (by decide)
      have F183_varying : Fld Z h183 b183 "com/example/rulr/rulr/policy/SqlCondition$Membership" "varying" "Lcom/example/rulr/rulr/policy/SqlCondition$Span;" .null := D183 (Or.inr (w66 hw)) (ty := (.object "com/example/rulr/rulr/policy/SqlCondition$Span")) (by decide)
      have F183_selected : Fld Z h183 b183 "com/example/rulr/rulr/policy/SqlCondition$Membership" "selected" "I" (.int (0 : Int32)) := D183 (Or.inr (w68 hw)) (ty := .int) (by decide)
      have F183_anchored : Fld Z h183 b183 "com/example/rulr/rulr/policy/SqlCondition$Membership" "anchored" "Z" (.int (0 : Int32)) := D183 (Or.inr (w70 hw)) (ty := .boolean) (by decide)
      have F183_joined : Fld Z h183 b183 "com/example/rulr/rulr/policy/SqlCondition$Membership" "joined" "I" (.int (0 : Int32)) := D183 (Or.inr (w72 hw)) (ty := .int) (by decide)
      show Gl p e below _ (T183.setTop (mkF m 242 #[.val (.long p1), .second, .val (.long p2), .second, .val (.int p3), .val (.int p4), .val (.ref b1), .val (.int (1 : Int32)), .val (.int (2 : Int32)), .val (.int (2 : Int32)), .val (.ref b178), .unset, .unset, .unset] [(.ref b183)]))
      refine Gl.of (fun _ kq_ => XS.dup X183.here hx rfl (hb hby at_242) rfl rfl kq_) ?_
      refine Gl.of (fun _ kq_ => XS.lloadN X183.here hx rfl (hb hby at_243) rfl kq_) ?_
      refine Gl.of (fun _ kq_ => XS.bipush X183.here hx rfl (hb hby at_244) kq_) ?_
      refine Gl.callS0 X183 hx hZ (y := (⟨"com/example/rulr/rulr/policy/MembershipConditionPinLaw", "ch", "(JI)C"⟩ : MethodName)) hown (w1 hw) (w2 hw) (w3 hw) (w4 hw) (desc_ne (by decide)) (argsL := [(.long p2), (.int (32 : Int32))]) (rest := [(.ref b183), (.ref b183)]) (rmH l Z a0 hw _ p2 (32 : Int32)) 2 (by decide) (by decide) e183 (by rw [hml]; rfl) pd_12 rfl rfl (Nat.le_of_eq rfl) (hb hby at_246) (by decide) (by decide) ?_
      intro v186 T186 X186 e186 hv186
      obtain ⟨c186_, rfl, hc186_⟩ := hv186
      show Gl p e below _ (T186.setTop (mkF m 249 #[.val (.long p1), .second, .val (.long p2), .second, .val (.int p3), .val (.int p4), .val (.ref b1), .val (.int (1 : Int32)), .val (.int (2 : Int32)), .val (.int (2 : Int32)), .val (.ref b178), .unset, .unset, .unset] [(.int c186_), (.ref b183), (.ref b183)]))
      refine Gl.callS X186 hx hZ (y := (⟨"java/lang/String", "valueOf", "(C)Ljava/lang/String;"⟩ : MethodName)) hown (w38 hw) (w39 hw) (w8 hw) (w40 hw) (desc_ne (by decide)) (rm := { frames := 2, cells := 2, slots := 5, locals := 33 }) (argsL := [(.int c186_)]) (rest := [(.ref b183), (.ref b183)]) (rmV l Z a0 hw _ c186_ cz n0 hc186_ SC hcz O183) 2 (by decide) (by decide) (by decide) (by decide) e186 (by rw [hml]; rfl) pd_14 rfl rfl (Nat.le_of_eq rfl) (hb hby at_249) ?_
      intro v187 T187 L187 X187 hQ187
      obtain ⟨r187, rfl, Kq187, Nq187⟩ := hQ187
      have N187 := Fr.app N180 Nq187
      have vc188 := vc184.keep Kq187 (by simp)
      have gc189 := gc185.keep Kq187 (by simp) (by simp)
      have ec190 := A183.keep Kq187
      have fc191 := F183_column.keep Kq187 (by simp)
      have fc192 := F183_query.keep Kq187 (by simp)
      have fc193 := F183_varying.keep Kq187 (by simp)
      have fc194 := F183_selected.keep Kq187 (by simp)
      have fc195 := F183_anchored.keep Kq187 (by simp)
      have fc196 := F183_joined.keep Kq187 (by simp)
      have O187 := O183.keep Kq187 all0
      have K187 := K183.trans Kq187 (by intro x hx'; exact nomatch hx')
      have hk187 := Nat.le_trans hk183 Kq187.1
      show Gl p e below _ (T187.setTop (mkF m 252 #[.val (.long p1), .second, .val (.long p2), .second, .val (.int p3), .val (.int p4), .val (.ref b1), .val (.int (1 : Int32)), .val (.int (2 : Int32)), .val (.int (2 : Int32)), .val (.ref b178), .unset, .unset, .unset] [(.ref r187), (.ref b183), (.ref b183)]))
      refine Gl.of (fun _ kq_ => XS.aload X187.here hx rfl (hb hby at_252) rfl rfl kq_) ?_
      refine Gl.of (fun _ kq_ => XS.aconstNull X187.here hx rfl (hb hby at_254) kq_) ?_
      refine Gl.of (fun _ kq_ => XS.iload X187.here hx rfl (hb hby at_255) rfl kq_) ?_
      have J270 : ∀ an : Int32, Gl p e below (GdH Z own_EL s (fun v h L => v = some (.int 1) ∧ Fr n0 L) 32 1216) (T187.setTop (mkF m 270 #[.val (.long p1), .second, .val (.long p2), .second, .val (.int p3), .val (.int p4), .val (.ref b1), .val (.int (1 : Int32)), .val (.int (2 : Int32)), .val (.int (2 : Int32)), .val (.ref b178), .unset, .unset, .unset] [(.int an), (.int (2 : Int32)), .null, (.ref b178), (.ref r187), (.ref b183), (.ref b183)])) := by
        intro an
        refine Gl.of (fun _ kq_ => XS.iload X187.here hx rfl (hb hby at_270) rfl kq_) ?_
        refine Gl.callI X187 hx hZ (y := (⟨"com/example/rulr/rulr/policy/SqlCondition$Membership", "<init>", "(Ljava/lang/String;Ljava/lang/String;Lcom/example/rulr/rulr/policy/SqlCondition$Span;IZI)V"⟩ : MethodName)) rfl hown (w52 hw) (w53 hw) (w37 hw) (w54 hw) (desc_ne (by decide)) (rm := { frames := 2, cells := 0, slots := 0, locals := 25 }) (b := b183) (argsL := [(.ref r187), (.ref b178), .null, (.int (2 : Int32)), (.int an), (.int p4)]) (rest := [(.ref b183)]) (rmM l Z a0 hw _ b183 r187 b178 (2 : Int32) an p4 n0 ec190 fc191 fc192 fc193 fc194 fc195 fc196 Gb183 O187) 1 (by decide) (by decide) (by decide) (by decide) rfl (by rw [hml]; rfl) pd_15 rfl rfl (Nat.le_of_eq rfl) (hb hby at_272) ?_
        intro v197 T197 L197 X197 hQ197
        obtain ⟨rfl, Nq197, Kq197, Fq197, Fs197⟩ := hQ197
        have N197 := Fr.app N187 Nq197
        have vc198 := vc188.keep Kq197 (fun q => ne_b1_b183 (List.mem_singleton.mp q))
        have gc199 := gc189.keep Kq197 (fun q => ne_b178_b183 (List.mem_singleton.mp q)) (fun q => ne_t180_b183 (List.mem_singleton.mp q))
        have ec200 := ec190.keep Kq197
        have O197 := O187.keep Kq197 (allS Gb183 all0)
        have K197 := K187.trans Kq197 (by intro x hx'; cases List.mem_singleton.mp hx'; exact Or.inr Jb183)
        have hk197 := Nat.le_trans hk187 Kq197.1
        show Gl p e below _ (T197.setTop (mkF m 275 #[.val (.long p1), .second, .val (.long p2), .second, .val (.int p3), .val (.int p4), .val (.ref b1), .val (.int (1 : Int32)), .val (.int (2 : Int32)), .val (.int (2 : Int32)), .val (.ref b178), .unset, .unset, .unset] [(.ref b183)]))
        refine Gl.of (fun _ kq_ => XS.astore X197.here hx rfl (hb hby at_275) rfl rfl (l' := #[.val (.long p1), .second, .val (.long p2), .second, .val (.int p3), .val (.int p4), .val (.ref b1), .val (.int (1 : Int32)), .val (.int (2 : Int32)), .val (.int (2 : Int32)), .val (.ref b178), .val (.ref b183), .unset, .unset]) rfl kq_) ?_
        refine Gl.of (fun _ kq_ => XS.aload X197.here hx rfl (hb hby at_277) rfl rfl kq_) ?_
        have hRk := hR0.trans (CHr.keep K197 (fun x hx => nomatch hx) hR0.1)
        refine Gl.callVH X197 hx hZ hS0 hk197 (own_el hw) hRk (y := (⟨"com/example/rulr/rulr/policy/SqlCondition$Membership", "condition", "()Ljava/lang/String;"⟩ : MethodName)) (z := (⟨"com/example/rulr/rulr/policy/SqlCondition$Membership", "condition", "()Ljava/lang/String;"⟩ : MethodName)) hown (w73 hw) (w74 hw) (notFace_of_selects (args := #[]) (mvT hZ (w76 hw))) (w76 hw) (w75 hw) (w77 hw) (w37 hw) (desc_ne (by decide)) (rm := { frames := 7, cells := 4, slots := 48, locals := 145 }) (b := b183) (argsL := []) (rest := []) ec200 (rmC2 l Z a0 hw _ b183 b178 t180 kb180 (nar .char c2_) (nar .char c5_) (nar .char (32 : Int32)) (nar .char (87 : Int32)) (nar .char (72 : Int32)) (nar .char (69 : Int32)) (nar .char (82 : Int32)) (nar .char (69 : Int32)) (nar .char (32 : Int32)) (nar .char c29_) (nar .char c32_) (nar .char c35_) cz fm n0 Fq197 Fs197 gc199 fb180 SC hcz SF rf O197) 0 (by decide) (by decide) (by decide) (by decide) rfl (by rw [hml]; rfl) pd_16 rfl rfl (Nat.le_of_eq rfl) (hb hby at_279) ?_
        intro v201 T201 L201 X201 hS201 hZ hown hQ201 hR201
        obtain ⟨r201, t201, kb201, rfl, SG201, Kq201, Nq201⟩ := hQ201
        have N201 := Fr.app N197 Nq201
        have vc202 := vc198.keep Kq201 (by simp)
        have gc203 := gc199.keep Kq201 (by simp) (by simp)
        have ec204 := ec200.keep Kq201
        have fc205 := Fq197.keep Kq201 (by simp)
        have fc206 := Fs197.keep Kq201 (by simp)
        have O201 := O197.keep Kq201 all0
        have K201 := K197.trans Kq201 (by intro x hx'; exact nomatch hx')
        have hk201 := Nat.le_trans hk197 Kq201.1
        show Gl p e below _ (T201.setTop (mkF m 282 #[.val (.long p1), .second, .val (.long p2), .second, .val (.int p3), .val (.int p4), .val (.ref b1), .val (.int (1 : Int32)), .val (.int (2 : Int32)), .val (.int (2 : Int32)), .val (.ref b178), .val (.ref b183), .unset, .unset] [(.ref r201)]))
        refine Gl.of (fun _ kq_ => XS.astore X201.here hx rfl (hb hby at_282) rfl rfl (l' := #[.val (.long p1), .second, .val (.long p2), .second, .val (.int p3), .val (.int p4), .val (.ref b1), .val (.int (1 : Int32)), .val (.int (2 : Int32)), .val (.int (2 : Int32)), .val (.ref b178), .val (.ref b183), .val (.ref r201), .unset]) rfl kq_) ?_
        refine Gl.of (fun _ kq_ => XS.iload X201.here hx rfl (hb hby at_284) rfl kq_) ?_
        refine Gl.of (fun _ kq_ => XS.ifYes X201.here hx rfl (pc0 := 286) (pc' := 300) rfl (hb hby at_286) rfl ((if0 _ _).trans (feq (by decide : ¬ ((1 : Int32) = (0 : Int32)))).2) (by decide) (by decide) kq_) ?_
        refine Gl.of (fun _ kq_ => XS.aload X201.here hx rfl (hb hby at_300) rfl rfl kq_) ?_
        refine Gl.of (fun _ kq_ => XS.ifnonnullYes X201.here hx rfl (pc0 := 302) (pc' := 307) rfl (hb hby at_302) rfl (by decide) (by decide) kq_) ?_
        refine Gl.of (fun _ kq_ => XS.iconst X201.here hx rfl (hb hby at_307) kq_) ?_
        show Gl p e below _ (T201.setTop (mkF m 308 #[.val (.long p1), .second, .val (.long p2), .second, .val (.int p3), .val (.int p4), .val (.ref b1), .val (.int (1 : Int32)), .val (.int (2 : Int32)), .val (.int (2 : Int32)), .val (.ref b178), .val (.ref b183), .val (.ref r201), .unset] [(.int (5 : Int32))]))
        refine Gl.of (fun _ kq_ => XS.iload X201.here hx rfl (hb hby at_308) rfl kq_) ?_
        refine Gl.of (fun _ kq_ => XS.isub X201.here hx rfl (hb hby at_310) rfl kq_) ?_
        show Gl p e below _ (T201.setTop (mkF m 311 #[.val (.long p1), .second, .val (.long p2), .second, .val (.int p3), .val (.int p4), .val (.ref b1), .val (.int (1 : Int32)), .val (.int (2 : Int32)), .val (.int (2 : Int32)), .val (.ref b178), .val (.ref b183), .val (.ref r201), .unset] [(.int (3 : Int32))]))
        refine Gl.of (fun _ kq_ => XS.istore X201.here hx rfl (hb hby at_311) rfl (l' := #[.val (.long p1), .second, .val (.long p2), .second, .val (.int p3), .val (.int p4), .val (.ref b1), .val (.int (1 : Int32)), .val (.int (2 : Int32)), .val (.int (2 : Int32)), .val (.ref b178), .val (.ref b183), .val (.ref r201), .val (.int (3 : Int32))]) rfl kq_) ?_
        refine Gl.of (fun _ kq_ => XS.aload X201.here hx rfl (hb hby at_313) rfl rfl kq_) ?_
        refine Gl.callVB X201 hx hZ (y := (⟨"java/lang/String", "length", "()I"⟩ : MethodName)) (z := (⟨"java/lang/String", "length", "()I"⟩ : MethodName)) hown (w138 hw) (w79 hw) (notFace_of_selects (args := #[]) (mvT hZ (w81 hw))) (w81 hw) (w80 hw) (desc_ne (by decide)) (W := 0) (fun v => v = some (.int (3 : Int32))) (b := r201) (argsL := []) (rest := []) SG201.1 (StrChars.Road.lenW (W := 0) hZ (own_wln hw) (kI := 4) (w7 hw) SG201.1 SG201.2.1 SG201.2.2.1 SG201.2.2.2.1 SG201.cod SG201.up (SC.ext O201.2) hcz SG201.2.2.2.2.2 (by decide) (by decide)) (by decide) (by decide) rfl (by rw [hml]; rfl) pd_5 rfl rfl (Nat.le_of_eq rfl) (hb hby at_315) ?_
        intro v207 T207 X207 e207 hv207
        subst hv207
        show Gl p e below _ (T207.setTop (mkF m 318 #[.val (.long p1), .second, .val (.long p2), .second, .val (.int p3), .val (.int p4), .val (.ref b1), .val (.int (1 : Int32)), .val (.int (2 : Int32)), .val (.int (2 : Int32)), .val (.ref b178), .val (.ref b183), .val (.ref r201), .val (.int (3 : Int32))] [(.int (3 : Int32))]))
        refine Gl.of (fun _ kq_ => XS.iload X207.here hx rfl (hb hby at_318) rfl kq_) ?_
        refine Gl.of (fun _ kq_ => XS.icmpNo X207.here hx rfl (hb hby at_320) rfl (teq (by decide : (3 : Int32) = (3 : Int32))).2 kq_) ?_
        refine Gl.of (fun _ kq_ => XS.aload X207.here hx rfl (hb hby at_323) rfl rfl kq_) ?_
        refine Gl.of (fun _ kq_ => XS.aload X207.here hx rfl (hb hby at_325) rfl rfl kq_) ?_
        refine Gl.of (fun _ kq_ => XS.iconst X207.here hx rfl (hb hby at_327) kq_) ?_
        refine Gl.of (fun _ kq_ => XS.iload X207.here hx rfl (hb hby at_328) rfl kq_) ?_
        show Gl p e below _ (T207.setTop (mkF m 330 #[.val (.long p1), .second, .val (.long p2), .second, .val (.int p3), .val (.int p4), .val (.ref b1), .val (.int (1 : Int32)), .val (.int (2 : Int32)), .val (.int (2 : Int32)), .val (.ref b178), .val (.ref b183), .val (.ref r201), .val (.int (3 : Int32))] [(.int (2 : Int32)), (.int (0 : Int32)), (.ref b1), (.ref r201)]))
        refine Gl.callS0 X207 hx hZ (y := (⟨"com/example/rulr/rulr/policy/MembershipConditionPinLaw", "at", "(Ljava/lang/String;[CII)Z"⟩ : MethodName)) hown (w139 hw) (w140 hw) (w3 hw) (w141 hw) (desc_ne (by decide)) (argsL := [(.ref r201), (.ref b1), (.int (0 : Int32)), (.int (2 : Int32))]) (rest := []) (rmA20 l Z a0 hw _ r201 t201 b1 kb201 k1 (nar .char c2_) (nar .char c5_) (nar .char (32 : Int32)) (nar .char (87 : Int32)) (nar .char (72 : Int32)) (nar .char (69 : Int32)) (nar .char (82 : Int32)) (nar .char (69 : Int32)) (nar .char (32 : Int32)) (nar .char c29_) (nar .char c32_) (nar .char c35_) cz fm n0 SG201 vc202 SC hcz SF rf O201) 0 (by decide) (by decide) e207 (by rw [hml]; rfl) pd_17 rfl rfl (Nat.le_of_eq rfl) (hb hby at_330) (by decide) (by decide) ?_
        intro v208 T208 X208 e208 hv208
        subst hv208
        show Gl p e below _ (T208.setTop (mkF m 333 #[.val (.long p1), .second, .val (.long p2), .second, .val (.int p3), .val (.int p4), .val (.ref b1), .val (.int (1 : Int32)), .val (.int (2 : Int32)), .val (.int (2 : Int32)), .val (.ref b178), .val (.ref b183), .val (.ref r201), .val (.int (3 : Int32))] [(.int (1 : Int32))]))
        refine Gl.of (fun _ kq_ => XS.ifNo X208.here hx rfl (hb hby at_333) rfl ((if0 _ _).trans (feq (by decide : ¬ ((1 : Int32) = (0 : Int32)))).1) kq_) ?_
        refine Gl.of (fun _ kq_ => XS.aload X208.here hx rfl (hb hby at_336) rfl rfl kq_) ?_
        refine Gl.of (fun _ kq_ => XS.aload X208.here hx rfl (hb hby at_338) rfl rfl kq_) ?_
        refine Gl.of (fun _ kq_ => XS.iconst X208.here hx rfl (hb hby at_340) kq_) ?_
        refine Gl.of (fun _ kq_ => XS.iload X208.here hx rfl (hb hby at_341) rfl kq_) ?_
        refine Gl.callS0 X208 hx hZ (y := (⟨"com/example/rulr/rulr/policy/MembershipConditionPinLaw", "at", "(Ljava/lang/String;[CII)Z"⟩ : MethodName)) hown (w139 hw) (w140 hw) (w3 hw) (w141 hw) (desc_ne (by decide)) (argsL := [(.ref r201), (.ref b1), (.int (1 : Int32)), (.int (2 : Int32))]) (rest := []) (rmA21 l Z a0 hw _ r201 t201 b1 kb201 k1 (nar .char c2_) (nar .char c5_) (nar .char (32 : Int32)) (nar .char (87 : Int32)) (nar .char (72 : Int32)) (nar .char (69 : Int32)) (nar .char (82 : Int32)) (nar .char (69 : Int32)) (nar .char (32 : Int32)) (nar .char c29_) (nar .char c32_) (nar .char c35_) cz fm n0 SG201 vc202 SC hcz SF rf O201) 0 (by decide) (by decide) e208 (by rw [hml]; rfl) pd_17 rfl rfl (Nat.le_of_eq rfl) (hb hby at_343) (by decide) (by decide) ?_
        intro v209 T209 X209 e209 hv209
        subst hv209
        show Gl p e below _ (T209.setTop (mkF m 346 #[.val (.long p1), .second, .val (.long p2), .second, .val (.int p3), .val (.int p4), .val (.ref b1), .val (.int (1 : Int32)), .val (.int (2 : Int32)), .val (.int (2 : Int32)), .val (.ref b178), .val (.ref b183), .val (.ref r201), .val (.int (3 : Int32))] [(.int (1 : Int32))]))
        refine Gl.of (fun _ kq_ => XS.ifNo X209.here hx rfl (hb hby at_346) rfl ((if0 _ _).trans (feq (by decide : ¬ ((1 : Int32) = (0 : Int32)))).1) kq_) ?_
        refine Gl.of (fun _ kq_ => XS.aload X209.here hx rfl (hb hby at_349) rfl rfl kq_) ?_
        refine Gl.of (fun _ kq_ => XS.aload X209.here hx rfl (hb hby at_351) rfl rfl kq_) ?_
        refine Gl.of (fun _ kq_ => XS.iconst X209.here hx rfl (hb hby at_353) kq_) ?_
        refine Gl.of (fun _ kq_ => XS.iload X209.here hx rfl (hb hby at_354) rfl kq_) ?_
        refine Gl.callS0 X209 hx hZ (y := (⟨"com/example/rulr/rulr/policy/MembershipConditionPinLaw", "at", "(Ljava/lang/String;[CII)Z"⟩ : MethodName)) hown (w139 hw) (w140 hw) (w3 hw) (w141 hw) (desc_ne (by decide)) (argsL := [(.ref r201), (.ref b1), (.int (2 : Int32)), (.int (2 : Int32))]) (rest := []) (rmA22 l Z a0 hw _ r201 t201 b1 kb201 k1 (nar .char c2_) (nar .char c5_) (nar .char (32 : Int32)) (nar .char (87 : Int32)) (nar .char (72 : Int32)) (nar .char (69 : Int32)) (nar .char (82 : Int32)) (nar .char (69 : Int32)) (nar .char (32 : Int32)) (nar .char c29_) (nar .char c32_) (nar .char c35_) cz fm n0 SG201 vc202 SC hcz SF rf O201) 0 (by decide) (by decide) e209 (by rw [hml]; rfl) pd_17 rfl rfl (Nat.le_of_eq rfl) (hb hby at_356) (by decide) (by decide) ?_
        intro v210 T210 X210 e210 hv210
        subst hv210
        show Gl p e below _ (T210.setTop (mkF m 359 #[.val (.long p1), .second, .val (.long p2), .second, .val (.int p3), .val (.int p4), .val (.ref b1), .val (.int (1 : Int32)), .val (.int (2 : Int32)), .val (.int (2 : Int32)), .val (.ref b178), .val (.ref b183), .val (.ref r201), .val (.int (3 : Int32))] [(.int (1 : Int32))]))
        refine Gl.of (fun _ kq_ => XS.ifNo X210.here hx rfl (hb hby at_359) rfl ((if0 _ _).trans (feq (by decide : ¬ ((1 : Int32) = (0 : Int32)))).1) kq_) ?_
        refine Gl.of (fun _ kq_ => XS.aload X210.here hx rfl (hb hby at_362) rfl rfl kq_) ?_
        refine Gl.of (fun _ kq_ => XS.aload X210.here hx rfl (hb hby at_364) rfl rfl kq_) ?_
        refine Gl.of (fun _ kq_ => XS.iconst X210.here hx rfl (hb hby at_366) kq_) ?_
        refine Gl.of (fun _ kq_ => XS.iload X210.here hx rfl (hb hby at_367) rfl kq_) ?_
        refine Gl.callS0 X210 hx hZ (y := (⟨"com/example/rulr/rulr/policy/MembershipConditionPinLaw", "at", "(Ljava/lang/String;[CII)Z"⟩ : MethodName)) hown (w139 hw) (w140 hw) (w3 hw) (w141 hw) (desc_ne (by decide)) (argsL := [(.ref r201), (.ref b1), (.int (3 : Int32)), (.int (2 : Int32))]) (rest := []) (rmA23 l Z a0 hw _ r201 t201 b1 kb201 k1 (nar .char c2_) (nar .char c5_) (nar .char (32 : Int32)) (nar .char (87 : Int32)) (nar .char (72 : Int32)) (nar .char (69 : Int32)) (nar .char (82 : Int32)) (nar .char (69 : Int32)) (nar .char (32 : Int32)) (nar .char c29_) (nar .char c32_) (nar .char c35_) cz fm n0 SG201 vc202 SC hcz SF rf O201) 0 (by decide) (by decide) e210 (by rw [hml]; rfl) pd_17 rfl rfl (Nat.le_of_eq rfl) (hb hby at_369) (by decide) (by decide) ?_
        intro v211 T211 X211 e211 hv211
        subst hv211
        show Gl p e below _ (T211.setTop (mkF m 372 #[.val (.long p1), .second, .val (.long p2), .second, .val (.int p3), .val (.int p4), .val (.ref b1), .val (.int (1 : Int32)), .val (.int (2 : Int32)), .val (.int (2 : Int32)), .val (.ref b178), .val (.ref b183), .val (.ref r201), .val (.int (3 : Int32))] [(.int (1 : Int32))]))
        refine Gl.of (fun _ kq_ => XS.ifNo X211.here hx rfl (hb hby at_372) rfl ((if0 _ _).trans (feq (by decide : ¬ ((1 : Int32) = (0 : Int32)))).1) kq_) ?_
        refine Gl.of (fun _ kq_ => XS.aload X211.here hx rfl (hb hby at_375) rfl rfl kq_) ?_
        refine Gl.of (fun _ kq_ => XS.aload X211.here hx rfl (hb hby at_377) rfl rfl kq_) ?_
        refine Gl.of (fun _ kq_ => XS.iconst X211.here hx rfl (hb hby at_379) kq_) ?_
        refine Gl.of (fun _ kq_ => XS.iload X211.here hx rfl (hb hby at_380) rfl kq_) ?_
        refine Gl.callS0 X211 hx hZ (y := (⟨"com/example/rulr/rulr/policy/MembershipConditionPinLaw", "at", "(Ljava/lang/String;[CII)Z"⟩ : MethodName)) hown (w139 hw) (w140 hw) (w3 hw) (w141 hw) (desc_ne (by decide)) (argsL := [(.ref r201), (.ref b1), (.int (4 : Int32)), (.int (2 : Int32))]) (rest := []) (rmA24 l Z a0 hw _ r201 t201 b1 kb201 k1 (nar .char c2_) (nar .char c5_) (nar .char (32 : Int32)) (nar .char (87 : Int32)) (nar .char (72 : Int32)) (nar .char (69 : Int32)) (nar .char (82 : Int32)) (nar .char (69 : Int32)) (nar .char (32 : Int32)) (nar .char c29_) (nar .char c32_) (nar .char c35_) cz fm n0 SG201 vc202 SC hcz SF rf O201) 0 (by decide) (by decide) e211 (by rw [hml]; rfl) pd_17 rfl rfl (Nat.le_of_eq rfl) (hb hby at_382) (by decide) (by decide) ?_
        intro v212 T212 X212 e212 hv212
        subst hv212
        show Gl p e below _ (T212.setTop (mkF m 385 #[.val (.long p1), .second, .val (.long p2), .second, .val (.int p3), .val (.int p4), .val (.ref b1), .val (.int (1 : Int32)), .val (.int (2 : Int32)), .val (.int (2 : Int32)), .val (.ref b178), .val (.ref b183), .val (.ref r201), .val (.int (3 : Int32))] [(.int (1 : Int32))]))
        refine Gl.of (fun _ kq_ => XS.ifNo X212.here hx rfl (hb hby at_385) rfl ((if0 _ _).trans (feq (by decide : ¬ ((1 : Int32) = (0 : Int32)))).1) kq_) ?_
        refine Gl.of (fun _ kq_ => XS.iconst X212.here hx rfl (hb hby at_388) kq_) ?_
        refine Gl.of (fun _ kq_ => XS.goto X212.here hx rfl (pc0 := 389) (pc' := 393) rfl (hb hby at_389) (by decide) (by decide) kq_) ?_
        exact Gl.retNH X212 hx hlk hret (by simp) (hb hby at_393) e212 (⟨rfl, N201⟩) hS201 (Nat.le_refl _) hZ (own_el hw) hR201 (by decide) (by decide)
      refine Gl.of (fun _ kq_ => XS.iload X187.here hx rfl (hb hby at_257) rfl kq_) ?_
      refine Gl.of (fun _ kq_ => XS.bipush X187.here hx rfl (hb hby at_259) kq_) ?_
      refine Gl.of (fun _ kq_ => XS.iand X187.here hx rfl (hb hby at_261) rfl kq_) ?_
      show Gl p e below _ (T187.setTop (mkF m 262 #[.val (.long p1), .second, .val (.long p2), .second, .val (.int p3), .val (.int p4), .val (.ref b1), .val (.int (1 : Int32)), .val (.int (2 : Int32)), .val (.int (2 : Int32)), .val (.ref b178), .unset, .unset, .unset] [(.int (p3 &&& (8 : Int32))), (.int (2 : Int32)), .null, (.ref b178), (.ref r187), (.ref b183), (.ref b183)]))
      by_cases hc262_213 : (p3 &&& (8 : Int32)) = (0 : Int32)
      · refine Gl.of (fun _ kq_ => XS.ifYes X187.here hx rfl (pc0 := 262) (pc' := 269) rfl (hb hby at_262) rfl ((if0 _ _).trans (teq hc262_213).1) (by decide) (by decide) kq_) ?_
        refine Gl.of (fun _ kq_ => XS.iconst X187.here hx rfl (hb hby at_269) kq_) ?_
        show Gl p e below _ (T187.setTop (mkF m 270 #[.val (.long p1), .second, .val (.long p2), .second, .val (.int p3), .val (.int p4), .val (.ref b1), .val (.int (1 : Int32)), .val (.int (2 : Int32)), .val (.int (2 : Int32)), .val (.ref b178), .unset, .unset, .unset] [(.int (0 : Int32)), (.int (2 : Int32)), .null, (.ref b178), (.ref r187), (.ref b183), (.ref b183)]))
        exact J270 _
      · refine Gl.of (fun _ kq_ => XS.ifNo X187.here hx rfl (hb hby at_262) rfl ((if0 _ _).trans (feq hc262_213).1) kq_) ?_
        refine Gl.of (fun _ kq_ => XS.iconst X187.here hx rfl (hb hby at_265) kq_) ?_
        refine Gl.of (fun _ kq_ => XS.goto X187.here hx rfl (pc0 := 266) (pc' := 270) rfl (hb hby at_266) (by decide) (by decide) kq_) ?_
        show Gl p e below _ (T187.setTop (mkF m 270 #[.val (.long p1), .second, .val (.long p2), .second, .val (.int p3), .val (.int p4), .val (.ref b1), .val (.int (1 : Int32)), .val (.int (2 : Int32)), .val (.int (2 : Int32)), .val (.ref b178), .unset, .unset, .unset] [(.int (1 : Int32)), (.int (2 : Int32)), .null, (.ref b178), (.ref r187), (.ref b183), (.ref b183)]))
        exact J270 _
    · rw [hq4]
      refine Gl.of (fun _ kq_ => XS.aload X37.here hx rfl (hb hby at_155) rfl rfl kq_) ?_
      refine Gl.of (fun _ kq_ => XS.iload X37.here hx rfl (hb hby at_157) rfl kq_) ?_
      refine Gl.of (fun _ kq_ => XS.bipush X37.here hx rfl (hb hby at_159) kq_) ?_
      obtain ⟨zcl214, zAr214, zq214, zS214, zM214, zH214, zG214⟩ := id V37
      obtain ⟨T215, h215, X215, e215, W215, st215⟩ := stC X37 hx hZ e37 zAr214 (j := (3 : Int32)) (inb_of zS214 ⟨by decide, by decide⟩) (g := (mkF m 161 #[.val (.long p1), .second, .val (.long p2), .second, .val (.int p3), .val (.int p4), .val (.ref b1), .val (.int (1 : Int32)), .val (.int (3 : Int32)), .unset, .unset, .unset, .unset, .unset] [(.int (32 : Int32)), (.int (3 : Int32)), (.ref b1)])) rfl rfl (hb hby at_161)
      refine Gl.of st215 ?_
      have V215 : Arv Z h215 b1 k1 .char (12 : Int32) [(.int (nar .char c2_)), (.int (nar .char c5_)), (.int (nar .char c8_)), (.int (nar .char (32 : Int32))), (.int (nar .char c14_)), (.int (nar .char c17_)), (.int (nar .char c20_)), (.int (nar .char c23_)), (.int (nar .char c26_)), (.int (nar .char c29_)), (.int (nar .char c32_)), (.int (nar .char c35_))] (.int (0 : Int32)) := Arv.set zAr214 zq214 zS214 zM214 zH214 zG214 (fits_nar_char _) W215 3 rfl (Nat.le_of_ble_eq_true rfl)
      have N215 := Fr.snoc X215 N37 Gb1
      have O215 := O37.wr W215 Gb1
      have K215 := K37.wr W215 (Or.inr Jb1)
      have hk215 := Nat.le_trans hk37 (Keep.of_wr W215).1
      show Gl p e below _ (T215.setTop (mkF m 162 #[.val (.long p1), .second, .val (.long p2), .second, .val (.int p3), .val (.int p4), .val (.ref b1), .val (.int (1 : Int32)), .val (.int (3 : Int32)), .unset, .unset, .unset, .unset, .unset] []))
      refine Gl.of (fun _ kq_ => XS.aload X215.here hx rfl (hb hby at_162) rfl rfl kq_) ?_
      refine Gl.of (fun _ kq_ => XS.iload X215.here hx rfl (hb hby at_164) rfl kq_) ?_
      refine Gl.of (fun _ kq_ => XS.iconst X215.here hx rfl (hb hby at_166) kq_) ?_
      refine Gl.of (fun _ kq_ => XS.iadd X215.here hx rfl (hb hby at_167) rfl kq_) ?_
      show Gl p e below _ (T215.setTop (mkF m 168 #[.val (.long p1), .second, .val (.long p2), .second, .val (.int p3), .val (.int p4), .val (.ref b1), .val (.int (1 : Int32)), .val (.int (3 : Int32)), .unset, .unset, .unset, .unset, .unset] [(.int (4 : Int32)), (.ref b1)]))
      refine Gl.of (fun _ kq_ => XS.bipush X215.here hx rfl (hb hby at_168) kq_) ?_
      obtain ⟨zcl216, zAr216, zq216, zS216, zM216, zH216, zG216⟩ := id V215
      obtain ⟨T217, h217, X217, e217, W217, st217⟩ := stC X215 hx hZ e215 zAr216 (j := (4 : Int32)) (inb_of zS216 ⟨by decide, by decide⟩) (g := (mkF m 170 #[.val (.long p1), .second, .val (.long p2), .second, .val (.int p3), .val (.int p4), .val (.ref b1), .val (.int (1 : Int32)), .val (.int (3 : Int32)), .unset, .unset, .unset, .unset, .unset] [(.int (87 : Int32)), (.int (4 : Int32)), (.ref b1)])) rfl rfl (hb hby at_170)
      refine Gl.of st217 ?_
      have V217 : Arv Z h217 b1 k1 .char (12 : Int32) [(.int (nar .char c2_)), (.int (nar .char c5_)), (.int (nar .char c8_)), (.int (nar .char (32 : Int32))), (.int (nar .char (87 : Int32))), (.int (nar .char c17_)), (.int (nar .char c20_)), (.int (nar .char c23_)), (.int (nar .char c26_)), (.int (nar .char c29_)), (.int (nar .char c32_)), (.int (nar .char c35_))] (.int (0 : Int32)) := Arv.set zAr216 zq216 zS216 zM216 zH216 zG216 (fits_nar_char _) W217 4 rfl (Nat.le_of_ble_eq_true rfl)
      have N217 := Fr.snoc X217 N215 Gb1
      have O217 := O215.wr W217 Gb1
      have K217 := K215.wr W217 (Or.inr Jb1)
      have hk217 := Nat.le_trans hk215 (Keep.of_wr W217).1
      show Gl p e below _ (T217.setTop (mkF m 171 #[.val (.long p1), .second, .val (.long p2), .second, .val (.int p3), .val (.int p4), .val (.ref b1), .val (.int (1 : Int32)), .val (.int (3 : Int32)), .unset, .unset, .unset, .unset, .unset] []))
      refine Gl.of (fun _ kq_ => XS.aload X217.here hx rfl (hb hby at_171) rfl rfl kq_) ?_
      refine Gl.of (fun _ kq_ => XS.iload X217.here hx rfl (hb hby at_173) rfl kq_) ?_
      refine Gl.of (fun _ kq_ => XS.iconst X217.here hx rfl (hb hby at_175) kq_) ?_
      refine Gl.of (fun _ kq_ => XS.iadd X217.here hx rfl (hb hby at_176) rfl kq_) ?_
      show Gl p e below _ (T217.setTop (mkF m 177 #[.val (.long p1), .second, .val (.long p2), .second, .val (.int p3), .val (.int p4), .val (.ref b1), .val (.int (1 : Int32)), .val (.int (3 : Int32)), .unset, .unset, .unset, .unset, .unset] [(.int (5 : Int32)), (.ref b1)]))
      refine Gl.of (fun _ kq_ => XS.bipush X217.here hx rfl (hb hby at_177) kq_) ?_
      obtain ⟨zcl218, zAr218, zq218, zS218, zM218, zH218, zG218⟩ := id V217
      obtain ⟨T219, h219, X219, e219, W219, st219⟩ := stC X217 hx hZ e217 zAr218 (j := (5 : Int32)) (inb_of zS218 ⟨by decide, by decide⟩) (g := (mkF m 179 #[.val (.long p1), .second, .val (.long p2), .second, .val (.int p3), .val (.int p4), .val (.ref b1), .val (.int (1 : Int32)), .val (.int (3 : Int32)), .unset, .unset, .unset, .unset, .unset] [(.int (72 : Int32)), (.int (5 : Int32)), (.ref b1)])) rfl rfl (hb hby at_179)
      refine Gl.of st219 ?_
      have V219 : Arv Z h219 b1 k1 .char (12 : Int32) [(.int (nar .char c2_)), (.int (nar .char c5_)), (.int (nar .char c8_)), (.int (nar .char (32 : Int32))), (.int (nar .char (87 : Int32))), (.int (nar .char (72 : Int32))), (.int (nar .char c20_)), (.int (nar .char c23_)), (.int (nar .char c26_)), (.int (nar .char c29_)), (.int (nar .char c32_)), (.int (nar .char c35_))] (.int (0 : Int32)) := Arv.set zAr218 zq218 zS218 zM218 zH218 zG218 (fits_nar_char _) W219 5 rfl (Nat.le_of_ble_eq_true rfl)
      have N219 := Fr.snoc X219 N217 Gb1
      have O219 := O217.wr W219 Gb1
      have K219 := K217.wr W219 (Or.inr Jb1)
      have hk219 := Nat.le_trans hk217 (Keep.of_wr W219).1
      show Gl p e below _ (T219.setTop (mkF m 180 #[.val (.long p1), .second, .val (.long p2), .second, .val (.int p3), .val (.int p4), .val (.ref b1), .val (.int (1 : Int32)), .val (.int (3 : Int32)), .unset, .unset, .unset, .unset, .unset] []))
      refine Gl.of (fun _ kq_ => XS.aload X219.here hx rfl (hb hby at_180) rfl rfl kq_) ?_
      refine Gl.of (fun _ kq_ => XS.iload X219.here hx rfl (hb hby at_182) rfl kq_) ?_
      refine Gl.of (fun _ kq_ => XS.iconst X219.here hx rfl (hb hby at_184) kq_) ?_
      refine Gl.of (fun _ kq_ => XS.iadd X219.here hx rfl (hb hby at_185) rfl kq_) ?_
      show Gl p e below _ (T219.setTop (mkF m 186 #[.val (.long p1), .second, .val (.long p2), .second, .val (.int p3), .val (.int p4), .val (.ref b1), .val (.int (1 : Int32)), .val (.int (3 : Int32)), .unset, .unset, .unset, .unset, .unset] [(.int (6 : Int32)), (.ref b1)]))
      refine Gl.of (fun _ kq_ => XS.bipush X219.here hx rfl (hb hby at_186) kq_) ?_
      obtain ⟨zcl220, zAr220, zq220, zS220, zM220, zH220, zG220⟩ := id V219
      obtain ⟨T221, h221, X221, e221, W221, st221⟩ := stC X219 hx hZ e219 zAr220 (j := (6 : Int32)) (inb_of zS220 ⟨by decide, by decide⟩) (g := (mkF m 188 #[.val (.long p1), .second, .val (.long p2), .second, .val (.int p3), .val (.int p4), .val (.ref b1), .val (.int (1 : Int32)), .val (.int (3 : Int32)), .unset, .unset, .unset, .unset, .unset] [(.int (69 : Int32)), (.int (6 : Int32)), (.ref b1)])) rfl rfl (hb hby at_188)
      refine Gl.of st221 ?_
      have V221 : Arv Z h221 b1 k1 .char (12 : Int32) [(.int (nar .char c2_)), (.int (nar .char c5_)), (.int (nar .char c8_)), (.int (nar .char (32 : Int32))), (.int (nar .char (87 : Int32))), (.int (nar .char (72 : Int32))), (.int (nar .char (69 : Int32))), (.int (nar .char c23_)), (.int (nar .char c26_)), (.int (nar .char c29_)), (.int (nar .char c32_)), (.int (nar .char c35_))] (.int (0 : Int32)) := Arv.set zAr220 zq220 zS220 zM220 zH220 zG220 (fits_nar_char _) W221 6 rfl (Nat.le_of_ble_eq_true rfl)
      have N221 := Fr.snoc X221 N219 Gb1
      have O221 := O219.wr W221 Gb1
      have K221 := K219.wr W221 (Or.inr Jb1)
      have hk221 := Nat.le_trans hk219 (Keep.of_wr W221).1
      show Gl p e below _ (T221.setTop (mkF m 189 #[.val (.long p1), .second, .val (.long p2), .second, .val (.int p3), .val (.int p4), .val (.ref b1), .val (.int (1 : Int32)), .val (.int (3 : Int32)), .unset, .unset, .unset, .unset, .unset] []))
      refine Gl.of (fun _ kq_ => XS.aload X221.here hx rfl (hb hby at_189) rfl rfl kq_) ?_
      refine Gl.of (fun _ kq_ => XS.iload X221.here hx rfl (hb hby at_191) rfl kq_) ?_
      refine Gl.of (fun _ kq_ => XS.iconst X221.here hx rfl (hb hby at_193) kq_) ?_
      refine Gl.of (fun _ kq_ => XS.iadd X221.here hx rfl (hb hby at_194) rfl kq_) ?_
      show Gl p e below _ (T221.setTop (mkF m 195 #[.val (.long p1), .second, .val (.long p2), .second, .val (.int p3), .val (.int p4), .val (.ref b1), .val (.int (1 : Int32)), .val (.int (3 : Int32)), .unset, .unset, .unset, .unset, .unset] [(.int (7 : Int32)), (.ref b1)]))
      refine Gl.of (fun _ kq_ => XS.bipush X221.here hx rfl (hb hby at_195) kq_) ?_
      obtain ⟨zcl222, zAr222, zq222, zS222, zM222, zH222, zG222⟩ := id V221
      obtain ⟨T223, h223, X223, e223, W223, st223⟩ := stC X221 hx hZ e221 zAr222 (j := (7 : Int32)) (inb_of zS222 ⟨by decide, by decide⟩) (g := (mkF m 197 #[.val (.long p1), .second, .val (.long p2), .second, .val (.int p3), .val (.int p4), .val (.ref b1), .val (.int (1 : Int32)), .val (.int (3 : Int32)), .unset, .unset, .unset, .unset, .unset] [(.int (82 : Int32)), (.int (7 : Int32)), (.ref b1)])) rfl rfl (hb hby at_197)
      refine Gl.of st223 ?_
      have V223 : Arv Z h223 b1 k1 .char (12 : Int32) [(.int (nar .char c2_)), (.int (nar .char c5_)), (.int (nar .char c8_)), (.int (nar .char (32 : Int32))), (.int (nar .char (87 : Int32))), (.int (nar .char (72 : Int32))), (.int (nar .char (69 : Int32))), (.int (nar .char (82 : Int32))), (.int (nar .char c26_)), (.int (nar .char c29_)), (.int (nar .char c32_)), (.int (nar .char c35_))] (.int (0 : Int32)) := Arv.set zAr222 zq222 zS222 zM222 zH222 zG222 (fits_nar_char _) W223 7 rfl (Nat.le_of_ble_eq_true rfl)
      have N223 := Fr.snoc X223 N221 Gb1
      have O223 := O221.wr W223 Gb1
      have K223 := K221.wr W223 (Or.inr Jb1)
      have hk223 := Nat.le_trans hk221 (Keep.of_wr W223).1
      show Gl p e below _ (T223.setTop (mkF m 198 #[.val (.long p1), .second, .val (.long p2), .second, .val (.int p3), .val (.int p4), .val (.ref b1), .val (.int (1 : Int32)), .val (.int (3 : Int32)), .unset, .unset, .unset, .unset, .unset] []))
      refine Gl.of (fun _ kq_ => XS.aload X223.here hx rfl (hb hby at_198) rfl rfl kq_) ?_
      refine Gl.of (fun _ kq_ => XS.iload X223.here hx rfl (hb hby at_200) rfl kq_) ?_
      refine Gl.of (fun _ kq_ => XS.iconst X223.here hx rfl (hb hby at_202) kq_) ?_
      refine Gl.of (fun _ kq_ => XS.iadd X223.here hx rfl (hb hby at_203) rfl kq_) ?_
      show Gl p e below _ (T223.setTop (mkF m 204 #[.val (.long p1), .second, .val (.long p2), .second, .val (.int p3), .val (.int p4), .val (.ref b1), .val (.int (1 : Int32)), .val (.int (3 : Int32)), .unset, .unset, .unset, .unset, .unset] [(.int (8 : Int32)), (.ref b1)]))
      refine Gl.of (fun _ kq_ => XS.bipush X223.here hx rfl (hb hby at_204) kq_) ?_
      obtain ⟨zcl224, zAr224, zq224, zS224, zM224, zH224, zG224⟩ := id V223
      obtain ⟨T225, h225, X225, e225, W225, st225⟩ := stC X223 hx hZ e223 zAr224 (j := (8 : Int32)) (inb_of zS224 ⟨by decide, by decide⟩) (g := (mkF m 206 #[.val (.long p1), .second, .val (.long p2), .second, .val (.int p3), .val (.int p4), .val (.ref b1), .val (.int (1 : Int32)), .val (.int (3 : Int32)), .unset, .unset, .unset, .unset, .unset] [(.int (69 : Int32)), (.int (8 : Int32)), (.ref b1)])) rfl rfl (hb hby at_206)
      refine Gl.of st225 ?_
      have V225 : Arv Z h225 b1 k1 .char (12 : Int32) [(.int (nar .char c2_)), (.int (nar .char c5_)), (.int (nar .char c8_)), (.int (nar .char (32 : Int32))), (.int (nar .char (87 : Int32))), (.int (nar .char (72 : Int32))), (.int (nar .char (69 : Int32))), (.int (nar .char (82 : Int32))), (.int (nar .char (69 : Int32))), (.int (nar .char c29_)), (.int (nar .char c32_)), (.int (nar .char c35_))] (.int (0 : Int32)) := Arv.set zAr224 zq224 zS224 zM224 zH224 zG224 (fits_nar_char _) W225 8 rfl (Nat.le_of_ble_eq_true rfl)
      have N225 := Fr.snoc X225 N223 Gb1
      have O225 := O223.wr W225 Gb1
      have K225 := K223.wr W225 (Or.inr Jb1)
      have hk225 := Nat.le_trans hk223 (Keep.of_wr W225).1
      show Gl p e below _ (T225.setTop (mkF m 207 #[.val (.long p1), .second, .val (.long p2), .second, .val (.int p3), .val (.int p4), .val (.ref b1), .val (.int (1 : Int32)), .val (.int (3 : Int32)), .unset, .unset, .unset, .unset, .unset] []))
      refine Gl.of (fun _ kq_ => XS.aload X225.here hx rfl (hb hby at_207) rfl rfl kq_) ?_
      refine Gl.of (fun _ kq_ => XS.iload X225.here hx rfl (hb hby at_209) rfl kq_) ?_
      refine Gl.of (fun _ kq_ => XS.bipush X225.here hx rfl (hb hby at_211) kq_) ?_
      refine Gl.of (fun _ kq_ => XS.iadd X225.here hx rfl (hb hby at_213) rfl kq_) ?_
      show Gl p e below _ (T225.setTop (mkF m 214 #[.val (.long p1), .second, .val (.long p2), .second, .val (.int p3), .val (.int p4), .val (.ref b1), .val (.int (1 : Int32)), .val (.int (3 : Int32)), .unset, .unset, .unset, .unset, .unset] [(.int (9 : Int32)), (.ref b1)]))
      refine Gl.of (fun _ kq_ => XS.bipush X225.here hx rfl (hb hby at_214) kq_) ?_
      obtain ⟨zcl226, zAr226, zq226, zS226, zM226, zH226, zG226⟩ := id V225
      obtain ⟨T227, h227, X227, e227, W227, st227⟩ := stC X225 hx hZ e225 zAr226 (j := (9 : Int32)) (inb_of zS226 ⟨by decide, by decide⟩) (g := (mkF m 216 #[.val (.long p1), .second, .val (.long p2), .second, .val (.int p3), .val (.int p4), .val (.ref b1), .val (.int (1 : Int32)), .val (.int (3 : Int32)), .unset, .unset, .unset, .unset, .unset] [(.int (32 : Int32)), (.int (9 : Int32)), (.ref b1)])) rfl rfl (hb hby at_216)
      refine Gl.of st227 ?_
      have V227 : Arv Z h227 b1 k1 .char (12 : Int32) [(.int (nar .char c2_)), (.int (nar .char c5_)), (.int (nar .char c8_)), (.int (nar .char (32 : Int32))), (.int (nar .char (87 : Int32))), (.int (nar .char (72 : Int32))), (.int (nar .char (69 : Int32))), (.int (nar .char (82 : Int32))), (.int (nar .char (69 : Int32))), (.int (nar .char (32 : Int32))), (.int (nar .char c32_)), (.int (nar .char c35_))] (.int (0 : Int32)) := Arv.set zAr226 zq226 zS226 zM226 zH226 zG226 (fits_nar_char _) W227 9 rfl (Nat.le_of_ble_eq_true rfl)
      have N227 := Fr.snoc X227 N225 Gb1
      have O227 := O225.wr W227 Gb1
      have K227 := K225.wr W227 (Or.inr Jb1)
      have hk227 := Nat.le_trans hk225 (Keep.of_wr W227).1
      show Gl p e below _ (T227.setTop (mkF m 217 #[.val (.long p1), .second, .val (.long p2), .second, .val (.int p3), .val (.int p4), .val (.ref b1), .val (.int (1 : Int32)), .val (.int (3 : Int32)), .unset, .unset, .unset, .unset, .unset] []))
      refine Gl.of (fun _ kq_ => XS.iload X227.here hx rfl (hb hby at_217) rfl kq_) ?_
      refine Gl.of (fun _ kq_ => XS.istore X227.here hx rfl (hb hby at_219) rfl (l' := #[.val (.long p1), .second, .val (.long p2), .second, .val (.int p3), .val (.int p4), .val (.ref b1), .val (.int (1 : Int32)), .val (.int (3 : Int32)), .val (.int (3 : Int32)), .unset, .unset, .unset, .unset]) rfl kq_) ?_
      refine Gl.of (fun _ kq_ => XS.goto X227.here hx rfl (pc0 := 221) (pc' := 228) rfl (hb hby at_221) (by decide) (by decide) kq_) ?_
      obtain ⟨T228, h228, X228, e228, E228, A228, D228, -, st228⟩ := newO X227 hx hZ hown (w6 hw) (w7 hw) (w8 hw) e227 (g := (mkF m 228 #[.val (.long p1), .second, .val (.long p2), .second, .val (.int p3), .val (.int p4), .val (.ref b1), .val (.int (1 : Int32)), .val (.int (3 : Int32)), .val (.int (3 : Int32)), .unset, .unset, .unset, .unset] [])) rfl (hb hby at_228) (by decide) (by decide)
      obtain ⟨b228, g228⟩ : ∃ z, z = h227.size := ⟨_, rfl⟩
      rw [← g228] at A228 D228 st228
      refine Gl.of st228 ?_
      have Gb228 : n0 ≤ b228 := Nat.le_trans (O227.1 ▸ O227.2.1) (Nat.le_of_eq g228.symm)
      have Jb228 : h0.size ≤ b228 := Nat.le_trans K227.1 (Nat.le_of_eq g228.symm)
      have ne_b1_b228 : b1 ≠ b228 := Nat.ne_of_lt (Nat.lt_of_lt_of_le V227.lt (Nat.le_of_eq g228.symm))
      have vc229 := V227.ext E228
      have O228 := O227.ext E228
      have K228 := K227.ext E228
      have hk228 := Nat.le_trans hk227 E228.1
      have F228_coder : Fld Z h228 b228 "java/lang/String" "coder" "B" (.int (0 : Int32)) := D228 (Or.inr (w32 hw)) (ty := .byte) (by decide)
      have F228_value : Fld Z h228 b228 "java/lang/String" "value" "[B" .null := D228 (Or.inr (w34 hw)) (ty := (.array .byte)) (by decide)
      show Gl p e below _ (T228.setTop (mkF m 231 #[.val (.long p1), .second, .val (.long p2), .second, .val (.int p3), .val (.int p4), .val (.ref b1), .val (.int (1 : Int32)), .val (.int (3 : Int32)), .val (.int (3 : Int32)), .unset, .unset, .unset, .unset] [(.ref b228)]))
      refine Gl.of (fun _ kq_ => XS.dup X228.here hx rfl (hb hby at_231) rfl rfl kq_) ?_
      refine Gl.of (fun _ kq_ => XS.aload X228.here hx rfl (hb hby at_232) rfl rfl kq_) ?_
      have hp230 : ∀ c ∈ ([(nar .char c2_), (nar .char c5_), (nar .char c8_), (nar .char (32 : Int32)), (nar .char (87 : Int32)), (nar .char (72 : Int32)), (nar .char (69 : Int32)), (nar .char (82 : Int32)), (nar .char (69 : Int32)), (nar .char (32 : Int32)), (nar .char c32_), (nar .char c35_)] : List Int32), ¬ c < 0 ∧ ¬ (255 : Int32) < c := own_cons (own_nr hc2_) (own_cons (own_nr hc5_) (own_cons (own_nr hc8_) (own_cons (by decide) (own_cons (by decide) (own_cons (by decide) (own_cons (by decide) (own_cons (by decide) (own_cons (by decide) (own_cons (by decide) (own_cons (own_nr hc32_) (own_cons (own_nr hc35_) (own_nil))))))))))))
      refine Gl.callIB X228 hx hZ (y := (⟨"java/lang/String", "<init>", "([C)V"⟩ : MethodName)) rfl hown (w9 hw) (w10 hw) (w11 hw) (desc_ne (by decide)) (C := 1) (N := 12) (W := 1) (own_QB Z b228 (12 : Int32) ((([(nar .char c2_), (nar .char c5_), (nar .char c8_), (nar .char (32 : Int32)), (nar .char (87 : Int32)), (nar .char (72 : Int32)), (nar .char (69 : Int32)), (nar .char (82 : Int32)), (nar .char (69 : Int32)), (nar .char (32 : Int32)), (nar .char c32_), (nar .char c35_)] : List Int32)).map (fun c => c.toInt8.toInt32)) h228 n0) (b := b228) (argsL := [(.ref b1)]) (rest := [(.ref b228)]) (own_backB (W := 1) hZ (own_ws hw) (kI := 4) (w7 hw) (cs := ([(nar .char c2_), (nar .char c5_), (nar .char c8_), (nar .char (32 : Int32)), (nar .char (87 : Int32)), (nar .char (72 : Int32)), (nar .char (69 : Int32)), (nar .char (82 : Int32)), (nar .char (69 : Int32)), (nar .char (32 : Int32)), (nar .char c32_), (nar .char c35_)] : List Int32)) (bs := (([(nar .char c2_), (nar .char c5_), (nar .char c8_), (nar .char (32 : Int32)), (nar .char (87 : Int32)), (nar .char (72 : Int32)), (nar .char (69 : Int32)), (nar .char (82 : Int32)), (nar .char (69 : Int32)), (nar .char (32 : Int32)), (nar .char c32_), (nar .char c35_)] : List Int32)).map (fun c => c.toInt8.toInt32)) (n := 12) Gb228 (O228.1 ▸ O228.2.1) A228 F228_value F228_coder vc229 (SC.ext O228.2) hcz rfl rfl (by decide) (by decide) hp230 rfl (by decide) (by decide)) (by decide) (by decide) e228 (by rw [hml]; rfl) pd_13 rfl rfl (Nat.le_of_eq rfl) (hb hby at_234) ?_
      intro v230 T230 L230 X230 hQ230
      obtain ⟨rfl, Nq230, Kq230, Eq230, Cq230, t230, kb230, Gt230, Ht230, nt230, Vq230, fb230, Bq230⟩ := hQ230
      have N230 := Fr.app N227 Nq230
      have Gt230 : n0 ≤ t230 := Gt230
      have ne_b1_t230 : b1 ≠ t230 := Nat.ne_of_lt (Nat.lt_of_lt_of_le vc229.lt Ht230)
      have ne_b228_t230 : b228 ≠ t230 := Nat.ne_of_lt (Nat.lt_of_lt_of_le A228.lt Ht230)
      have Jt230 : h0.size ≤ t230 := Nat.le_trans K228.1 Ht230
      have vc231 := vc229.keep Kq230 (fun q => ne_b1_b228 (List.mem_singleton.mp q))
      have ec232 := A228.keep Kq230
      have O230 := O228.keep Kq230 (allS Gb228 all0)
      have K230 := K228.trans Kq230 (by intro x hx'; cases List.mem_singleton.mp hx'; exact Or.inr Jb228)
      have hk230 := Nat.le_trans hk228 Kq230.1
      have SG230 : Strg Z T230.heap b228 t230 kb230 ([(nar .char c2_), (nar .char c5_), (nar .char c8_), (nar .char (32 : Int32)), (nar .char (87 : Int32)), (nar .char (72 : Int32)), (nar .char (69 : Int32)), (nar .char (82 : Int32)), (nar .char (69 : Int32)), (nar .char (32 : Int32)), (nar .char c32_), (nar .char c35_)] : List Int32) := ⟨Eq230, Vq230, Cq230, Bq230, hp230, Nat.le_of_ble_eq_true rfl⟩
      show Gl p e below _ (T230.setTop (mkF m 237 #[.val (.long p1), .second, .val (.long p2), .second, .val (.int p3), .val (.int p4), .val (.ref b1), .val (.int (1 : Int32)), .val (.int (3 : Int32)), .val (.int (3 : Int32)), .unset, .unset, .unset, .unset] [(.ref b228)]))
      refine Gl.of (fun _ kq_ => XS.astore X230.here hx rfl (hb hby at_237) rfl rfl (l' := #[.val (.long p1), .second, .val (.long p2), .second, .val (.int p3), .val (.int p4), .val (.ref b1), .val (.int (1 : Int32)), .val (.int (3 : Int32)), .val (.int (3 : Int32)), .val (.ref b228), .unset, .unset, .unset]) rfl kq_) ?_
      obtain ⟨T233, h233, X233, e233, E233, A233, D233, -, st233⟩ := newO X230 hx hZ hown (w35 hw) (w36 hw) (w37 hw) rfl (g := (mkF m 239 #[.val (.long p1), .second, .val (.long p2), .second, .val (.int p3), .val (.int p4), .val (.ref b1), .val (.int (1 : Int32)), .val (.int (3 : Int32)), .val (.int (3 : Int32)), .val (.ref b228), .unset, .unset, .unset] [])) rfl (hb hby at_239) (by decide) (by decide)
      obtain ⟨b233, g233⟩ : ∃ z, z = T230.heap.size := ⟨_, rfl⟩
      rw [← g233] at A233 D233 st233
      refine Gl.of st233 ?_
      have Gb233 : n0 ≤ b233 := Nat.le_trans (O230.1 ▸ O230.2.1) (Nat.le_of_eq g233.symm)
      have Jb233 : h0.size ≤ b233 := Nat.le_trans K230.1 (Nat.le_of_eq g233.symm)
      have ne_b1_b233 : b1 ≠ b233 := Nat.ne_of_lt (Nat.lt_of_lt_of_le vc231.lt (Nat.le_of_eq g233.symm))
      have ne_b228_b233 : b228 ≠ b233 := Nat.ne_of_lt (Nat.lt_of_lt_of_le SG230.lt (Nat.le_of_eq g233.symm))
      have ne_t230_b233 : t230 ≠ b233 := Nat.ne_of_lt (Nat.lt_of_lt_of_le SG230.lt' (Nat.le_of_eq g233.symm))
      have vc234 := vc231.ext E233
      have gc235 := SG230.ext E233
      have O233 := O230.ext E233
      have K233 := K230.ext E233
      have hk233 := Nat.le_trans hk230 E233.1
      have F233_column : Fld Z h233 b233 "com/example/rulr/rulr/policy/SqlCondition$Membership" "column" "Ljava/lang/String;" .null := D233 (Or.inr (w62 hw)) (ty := (.object "java/lang/String")) (by decide)
      have F233_query : Fld Z h233 b233 "com/example/rulr/rulr/policy/SqlCondition$Membership" "query" "Ljava/lang/String;" .null := D233 (Or.inr (w64 hw)) (ty := (.object "java/lang/String")) (by decide)
      have F233_varying : Fld Z h233 b233 "com/example/rulr/rulr/policy/SqlCondition$Membership" "varying" "Lcom/example/rulr/rulr/policy/SqlCondition$Span;" .null := D233 (Or.inr (w66 hw)) (ty := (.object "com/example/rulr/rulr/policy/SqlCondition$Span")) (by decide)
      have F233_selected : Fld Z h233 b233 "com/example/rulr/rulr/policy/SqlCondition$Membership" "selected" "I" (.int (0 : Int32)) := D233 (Or.inr (w68 hw)) (ty := .int) (by decide)
      have F233_anchored : Fld Z h233 b233 "com/example/rulr/rulr/policy/SqlCondition$Membership" "anchored" "Z" (.int (0 : Int32)) := D233 (Or.inr (w70 hw)) (ty := .boolean) (by decide)
      have F233_joined : Fld Z h233 b233 "com/example/rulr/rulr/policy/SqlCondition$Membership" "joined" "I" (.int (0 : Int32)) := D233 (Or.inr (w72 hw)) (ty := .int) (by decide)
      show Gl p e below _ (T233.setTop (mkF m 242 #[.val (.long p1), .second, .val (.long p2), .second, .val (.int p3), .val (.int p4), .val (.ref b1), .val (.int (1 : Int32)), .val (.int (3 : Int32)), .val (.int (3 : Int32)), .val (.ref b228), .unset, .unset, .unset] [(.ref b233)]))
      refine Gl.of (fun _ kq_ => XS.dup X233.here hx rfl (hb hby at_242) rfl rfl kq_) ?_
      refine Gl.of (fun _ kq_ => XS.lloadN X233.here hx rfl (hb hby at_243) rfl kq_) ?_
      refine Gl.of (fun _ kq_ => XS.bipush X233.here hx rfl (hb hby at_244) kq_) ?_
      refine Gl.callS0 X233 hx hZ (y := (⟨"com/example/rulr/rulr/policy/MembershipConditionPinLaw", "ch", "(JI)C"⟩ : MethodName)) hown (w1 hw) (w2 hw) (w3 hw) (w4 hw) (desc_ne (by decide)) (argsL := [(.long p2), (.int (32 : Int32))]) (rest := [(.ref b233), (.ref b233)]) (rmH l Z a0 hw _ p2 (32 : Int32)) 2 (by decide) (by decide) e233 (by rw [hml]; rfl) pd_12 rfl rfl (Nat.le_of_eq rfl) (hb hby at_246) (by decide) (by decide) ?_
      intro v236 T236 X236 e236 hv236
      obtain ⟨c236_, rfl, hc236_⟩ := hv236
      show Gl p e below _ (T236.setTop (mkF m 249 #[.val (.long p1), .second, .val (.long p2), .second, .val (.int p3), .val (.int p4), .val (.ref b1), .val (.int (1 : Int32)), .val (.int (3 : Int32)), .val (.int (3 : Int32)), .val (.ref b228), .unset, .unset, .unset] [(.int c236_), (.ref b233), (.ref b233)]))
      refine Gl.callS X236 hx hZ (y := (⟨"java/lang/String", "valueOf", "(C)Ljava/lang/String;"⟩ : MethodName)) hown (w38 hw) (w39 hw) (w8 hw) (w40 hw) (desc_ne (by decide)) (rm := { frames := 2, cells := 2, slots := 5, locals := 33 }) (argsL := [(.int c236_)]) (rest := [(.ref b233), (.ref b233)]) (rmV l Z a0 hw _ c236_ cz n0 hc236_ SC hcz O233) 2 (by decide) (by decide) (by decide) (by decide) e236 (by rw [hml]; rfl) pd_14 rfl rfl (Nat.le_of_eq rfl) (hb hby at_249) ?_
      intro v237 T237 L237 X237 hQ237
      obtain ⟨r237, rfl, Kq237, Nq237⟩ := hQ237
      have N237 := Fr.app N230 Nq237
      have vc238 := vc234.keep Kq237 (by simp)
      have gc239 := gc235.keep Kq237 (by simp) (by simp)
      have ec240 := A233.keep Kq237
      have fc241 := F233_column.keep Kq237 (by simp)
      have fc242 := F233_query.keep Kq237 (by simp)
      have fc243 := F233_varying.keep Kq237 (by simp)
      have fc244 := F233_selected.keep Kq237 (by simp)
      have fc245 := F233_anchored.keep Kq237 (by simp)
      have fc246 := F233_joined.keep Kq237 (by simp)
      have O237 := O233.keep Kq237 all0
      have K237 := K233.trans Kq237 (by intro x hx'; exact nomatch hx')
      have hk237 := Nat.le_trans hk233 Kq237.1
      show Gl p e below _ (T237.setTop (mkF m 252 #[.val (.long p1), .second, .val (.long p2), .second, .val (.int p3), .val (.int p4), .val (.ref b1), .val (.int (1 : Int32)), .val (.int (3 : Int32)), .val (.int (3 : Int32)), .val (.ref b228), .unset, .unset, .unset] [(.ref r237), (.ref b233), (.ref b233)]))
      refine Gl.of (fun _ kq_ => XS.aload X237.here hx rfl (hb hby at_252) rfl rfl kq_) ?_
      refine Gl.of (fun _ kq_ => XS.aconstNull X237.here hx rfl (hb hby at_254) kq_) ?_
      refine Gl.of (fun _ kq_ => XS.iload X237.here hx rfl (hb hby at_255) rfl kq_) ?_
      have J270 : ∀ an : Int32, Gl p e below (GdH Z own_EL s (fun v h L => v = some (.int 1) ∧ Fr n0 L) 32 1216) (T237.setTop (mkF m 270 #[.val (.long p1), .second, .val (.long p2), .second, .val (.int p3), .val (.int p4), .val (.ref b1), .val (.int (1 : Int32)), .val (.int (3 : Int32)), .val (.int (3 : Int32)), .val (.ref b228), .unset, .unset, .unset] [(.int an), (.int (3 : Int32)), .null, (.ref b228), (.ref r237), (.ref b233), (.ref b233)])) := by
        intro an
        refine Gl.of (fun _ kq_ => XS.iload X237.here hx rfl (hb hby at_270) rfl kq_) ?_
        refine Gl.callI X237 hx hZ (y := (⟨"com/example/rulr/rulr/policy/SqlCondition$Membership", "<init>", "(Ljava/lang/String;Ljava/lang/String;Lcom/example/rulr/rulr/policy/SqlCondition$Span;IZI)V"⟩ : MethodName)) rfl hown (w52 hw) (w53 hw) (w37 hw) (w54 hw) (desc_ne (by decide)) (rm := { frames := 2, cells := 0, slots := 0, locals := 25 }) (b := b233) (argsL := [(.ref r237), (.ref b228), .null, (.int (3 : Int32)), (.int an), (.int p4)]) (rest := [(.ref b233)]) (rmM l Z a0 hw _ b233 r237 b228 (3 : Int32) an p4 n0 ec240 fc241 fc242 fc243 fc244 fc245 fc246 Gb233 O237) 1 (by decide) (by decide) (by decide) (by decide) rfl (by rw [hml]; rfl) pd_15 rfl rfl (Nat.le_of_eq rfl) (hb hby at_272) ?_
        intro v247 T247 L247 X247 hQ247
        obtain ⟨rfl, Nq247, Kq247, Fq247, Fs247⟩ := hQ247
        have N247 := Fr.app N237 Nq247
        have vc248 := vc238.keep Kq247 (fun q => ne_b1_b233 (List.mem_singleton.mp q))
        have gc249 := gc239.keep Kq247 (fun q => ne_b228_b233 (List.mem_singleton.mp q)) (fun q => ne_t230_b233 (List.mem_singleton.mp q))
        have ec250 := ec240.keep Kq247
        have O247 := O237.keep Kq247 (allS Gb233 all0)
        have K247 := K237.trans Kq247 (by intro x hx'; cases List.mem_singleton.mp hx'; exact Or.inr Jb233)
        have hk247 := Nat.le_trans hk237 Kq247.1
        show Gl p e below _ (T247.setTop (mkF m 275 #[.val (.long p1), .second, .val (.long p2), .second, .val (.int p3), .val (.int p4), .val (.ref b1), .val (.int (1 : Int32)), .val (.int (3 : Int32)), .val (.int (3 : Int32)), .val (.ref b228), .unset, .unset, .unset] [(.ref b233)]))
        refine Gl.of (fun _ kq_ => XS.astore X247.here hx rfl (hb hby at_275) rfl rfl (l' := #[.val (.long p1), .second, .val (.long p2), .second, .val (.int p3), .val (.int p4), .val (.ref b1), .val (.int (1 : Int32)), .val (.int (3 : Int32)), .val (.int (3 : Int32)), .val (.ref b228), .val (.ref b233), .unset, .unset]) rfl kq_) ?_
        refine Gl.of (fun _ kq_ => XS.aload X247.here hx rfl (hb hby at_277) rfl rfl kq_) ?_
        have hRk := hR0.trans (CHr.keep K247 (fun x hx => nomatch hx) hR0.1)
        refine Gl.callVH X247 hx hZ hS0 hk247 (own_el hw) hRk (y := (⟨"com/example/rulr/rulr/policy/SqlCondition$Membership", "condition", "()Ljava/lang/String;"⟩ : MethodName)) (z := (⟨"com/example/rulr/rulr/policy/SqlCondition$Membership", "condition", "()Ljava/lang/String;"⟩ : MethodName)) hown (w73 hw) (w74 hw) (notFace_of_selects (args := #[]) (mvT hZ (w76 hw))) (w76 hw) (w75 hw) (w77 hw) (w37 hw) (desc_ne (by decide)) (rm := { frames := 7, cells := 4, slots := 48, locals := 145 }) (b := b233) (argsL := []) (rest := []) ec250 (rmC3 l Z a0 hw _ b233 b228 t230 kb230 (nar .char c2_) (nar .char c5_) (nar .char c8_) (nar .char (32 : Int32)) (nar .char (87 : Int32)) (nar .char (72 : Int32)) (nar .char (69 : Int32)) (nar .char (82 : Int32)) (nar .char (69 : Int32)) (nar .char (32 : Int32)) (nar .char c32_) (nar .char c35_) cz fm n0 Fq247 Fs247 gc249 fb230 SC hcz SF rf O247) 0 (by decide) (by decide) (by decide) (by decide) rfl (by rw [hml]; rfl) pd_16 rfl rfl (Nat.le_of_eq rfl) (hb hby at_279) ?_
        intro v251 T251 L251 X251 hS251 hZ hown hQ251 hR251
        obtain ⟨r251, t251, kb251, rfl, SG251, Kq251, Nq251⟩ := hQ251
        have N251 := Fr.app N247 Nq251
        have vc252 := vc248.keep Kq251 (by simp)
        have gc253 := gc249.keep Kq251 (by simp) (by simp)
        have ec254 := ec250.keep Kq251
        have fc255 := Fq247.keep Kq251 (by simp)
        have fc256 := Fs247.keep Kq251 (by simp)
        have O251 := O247.keep Kq251 all0
        have K251 := K247.trans Kq251 (by intro x hx'; exact nomatch hx')
        have hk251 := Nat.le_trans hk247 Kq251.1
        show Gl p e below _ (T251.setTop (mkF m 282 #[.val (.long p1), .second, .val (.long p2), .second, .val (.int p3), .val (.int p4), .val (.ref b1), .val (.int (1 : Int32)), .val (.int (3 : Int32)), .val (.int (3 : Int32)), .val (.ref b228), .val (.ref b233), .unset, .unset] [(.ref r251)]))
        refine Gl.of (fun _ kq_ => XS.astore X251.here hx rfl (hb hby at_282) rfl rfl (l' := #[.val (.long p1), .second, .val (.long p2), .second, .val (.int p3), .val (.int p4), .val (.ref b1), .val (.int (1 : Int32)), .val (.int (3 : Int32)), .val (.int (3 : Int32)), .val (.ref b228), .val (.ref b233), .val (.ref r251), .unset]) rfl kq_) ?_
        refine Gl.of (fun _ kq_ => XS.iload X251.here hx rfl (hb hby at_284) rfl kq_) ?_
        refine Gl.of (fun _ kq_ => XS.ifYes X251.here hx rfl (pc0 := 286) (pc' := 300) rfl (hb hby at_286) rfl ((if0 _ _).trans (feq (by decide : ¬ ((1 : Int32) = (0 : Int32)))).2) (by decide) (by decide) kq_) ?_
        refine Gl.of (fun _ kq_ => XS.aload X251.here hx rfl (hb hby at_300) rfl rfl kq_) ?_
        refine Gl.of (fun _ kq_ => XS.ifnonnullYes X251.here hx rfl (pc0 := 302) (pc' := 307) rfl (hb hby at_302) rfl (by decide) (by decide) kq_) ?_
        refine Gl.of (fun _ kq_ => XS.iconst X251.here hx rfl (hb hby at_307) kq_) ?_
        show Gl p e below _ (T251.setTop (mkF m 308 #[.val (.long p1), .second, .val (.long p2), .second, .val (.int p3), .val (.int p4), .val (.ref b1), .val (.int (1 : Int32)), .val (.int (3 : Int32)), .val (.int (3 : Int32)), .val (.ref b228), .val (.ref b233), .val (.ref r251), .unset] [(.int (5 : Int32))]))
        refine Gl.of (fun _ kq_ => XS.iload X251.here hx rfl (hb hby at_308) rfl kq_) ?_
        refine Gl.of (fun _ kq_ => XS.isub X251.here hx rfl (hb hby at_310) rfl kq_) ?_
        show Gl p e below _ (T251.setTop (mkF m 311 #[.val (.long p1), .second, .val (.long p2), .second, .val (.int p3), .val (.int p4), .val (.ref b1), .val (.int (1 : Int32)), .val (.int (3 : Int32)), .val (.int (3 : Int32)), .val (.ref b228), .val (.ref b233), .val (.ref r251), .unset] [(.int (2 : Int32))]))
        refine Gl.of (fun _ kq_ => XS.istore X251.here hx rfl (hb hby at_311) rfl (l' := #[.val (.long p1), .second, .val (.long p2), .second, .val (.int p3), .val (.int p4), .val (.ref b1), .val (.int (1 : Int32)), .val (.int (3 : Int32)), .val (.int (3 : Int32)), .val (.ref b228), .val (.ref b233), .val (.ref r251), .val (.int (2 : Int32))]) rfl kq_) ?_
        refine Gl.of (fun _ kq_ => XS.aload X251.here hx rfl (hb hby at_313) rfl rfl kq_) ?_
        refine Gl.callVB X251 hx hZ (y := (⟨"java/lang/String", "length", "()I"⟩ : MethodName)) (z := (⟨"java/lang/String", "length", "()I"⟩ : MethodName)) hown (w138 hw) (w79 hw) (notFace_of_selects (args := #[]) (mvT hZ (w81 hw))) (w81 hw) (w80 hw) (desc_ne (by decide)) (W := 0) (fun v => v = some (.int (2 : Int32))) (b := r251) (argsL := []) (rest := []) SG251.1 (StrChars.Road.lenW (W := 0) hZ (own_wln hw) (kI := 4) (w7 hw) SG251.1 SG251.2.1 SG251.2.2.1 SG251.2.2.2.1 SG251.cod SG251.up (SC.ext O251.2) hcz SG251.2.2.2.2.2 (by decide) (by decide)) (by decide) (by decide) rfl (by rw [hml]; rfl) pd_5 rfl rfl (Nat.le_of_eq rfl) (hb hby at_315) ?_
        intro v257 T257 X257 e257 hv257
        subst hv257
        show Gl p e below _ (T257.setTop (mkF m 318 #[.val (.long p1), .second, .val (.long p2), .second, .val (.int p3), .val (.int p4), .val (.ref b1), .val (.int (1 : Int32)), .val (.int (3 : Int32)), .val (.int (3 : Int32)), .val (.ref b228), .val (.ref b233), .val (.ref r251), .val (.int (2 : Int32))] [(.int (2 : Int32))]))
        refine Gl.of (fun _ kq_ => XS.iload X257.here hx rfl (hb hby at_318) rfl kq_) ?_
        refine Gl.of (fun _ kq_ => XS.icmpNo X257.here hx rfl (hb hby at_320) rfl (teq (by decide : (2 : Int32) = (2 : Int32))).2 kq_) ?_
        refine Gl.of (fun _ kq_ => XS.aload X257.here hx rfl (hb hby at_323) rfl rfl kq_) ?_
        refine Gl.of (fun _ kq_ => XS.aload X257.here hx rfl (hb hby at_325) rfl rfl kq_) ?_
        refine Gl.of (fun _ kq_ => XS.iconst X257.here hx rfl (hb hby at_327) kq_) ?_
        refine Gl.of (fun _ kq_ => XS.iload X257.here hx rfl (hb hby at_328) rfl kq_) ?_
        show Gl p e below _ (T257.setTop (mkF m 330 #[.val (.long p1), .second, .val (.long p2), .second, .val (.int p3), .val (.int p4), .val (.ref b1), .val (.int (1 : Int32)), .val (.int (3 : Int32)), .val (.int (3 : Int32)), .val (.ref b228), .val (.ref b233), .val (.ref r251), .val (.int (2 : Int32))] [(.int (3 : Int32)), (.int (0 : Int32)), (.ref b1), (.ref r251)]))
        refine Gl.callS0 X257 hx hZ (y := (⟨"com/example/rulr/rulr/policy/MembershipConditionPinLaw", "at", "(Ljava/lang/String;[CII)Z"⟩ : MethodName)) hown (w139 hw) (w140 hw) (w3 hw) (w141 hw) (desc_ne (by decide)) (argsL := [(.ref r251), (.ref b1), (.int (0 : Int32)), (.int (3 : Int32))]) (rest := []) (rmA30 l Z a0 hw _ r251 t251 b1 kb251 k1 (nar .char c2_) (nar .char c5_) (nar .char c8_) (nar .char (32 : Int32)) (nar .char (87 : Int32)) (nar .char (72 : Int32)) (nar .char (69 : Int32)) (nar .char (82 : Int32)) (nar .char (69 : Int32)) (nar .char (32 : Int32)) (nar .char c32_) (nar .char c35_) cz fm n0 SG251 vc252 SC hcz SF rf O251) 0 (by decide) (by decide) e257 (by rw [hml]; rfl) pd_17 rfl rfl (Nat.le_of_eq rfl) (hb hby at_330) (by decide) (by decide) ?_
        intro v258 T258 X258 e258 hv258
        subst hv258
        show Gl p e below _ (T258.setTop (mkF m 333 #[.val (.long p1), .second, .val (.long p2), .second, .val (.int p3), .val (.int p4), .val (.ref b1), .val (.int (1 : Int32)), .val (.int (3 : Int32)), .val (.int (3 : Int32)), .val (.ref b228), .val (.ref b233), .val (.ref r251), .val (.int (2 : Int32))] [(.int (1 : Int32))]))
        refine Gl.of (fun _ kq_ => XS.ifNo X258.here hx rfl (hb hby at_333) rfl ((if0 _ _).trans (feq (by decide : ¬ ((1 : Int32) = (0 : Int32)))).1) kq_) ?_
        refine Gl.of (fun _ kq_ => XS.aload X258.here hx rfl (hb hby at_336) rfl rfl kq_) ?_
        refine Gl.of (fun _ kq_ => XS.aload X258.here hx rfl (hb hby at_338) rfl rfl kq_) ?_
        refine Gl.of (fun _ kq_ => XS.iconst X258.here hx rfl (hb hby at_340) kq_) ?_
        refine Gl.of (fun _ kq_ => XS.iload X258.here hx rfl (hb hby at_341) rfl kq_) ?_
        refine Gl.callS0 X258 hx hZ (y := (⟨"com/example/rulr/rulr/policy/MembershipConditionPinLaw", "at", "(Ljava/lang/String;[CII)Z"⟩ : MethodName)) hown (w139 hw) (w140 hw) (w3 hw) (w141 hw) (desc_ne (by decide)) (argsL := [(.ref r251), (.ref b1), (.int (1 : Int32)), (.int (3 : Int32))]) (rest := []) (rmA31 l Z a0 hw _ r251 t251 b1 kb251 k1 (nar .char c2_) (nar .char c5_) (nar .char c8_) (nar .char (32 : Int32)) (nar .char (87 : Int32)) (nar .char (72 : Int32)) (nar .char (69 : Int32)) (nar .char (82 : Int32)) (nar .char (69 : Int32)) (nar .char (32 : Int32)) (nar .char c32_) (nar .char c35_) cz fm n0 SG251 vc252 SC hcz SF rf O251) 0 (by decide) (by decide) e258 (by rw [hml]; rfl) pd_17 rfl rfl (Nat.le_of_eq rfl) (hb hby at_343) (by decide) (by decide) ?_
        intro v259 T259 X259 e259 hv259
        subst hv259
        show Gl p e below _ (T259.setTop (mkF m 346 #[.val (.long p1), .second, .val (.long p2), .second, .val (.int p3), .val (.int p4), .val (.ref b1), .val (.int (1 : Int32)), .val (.int (3 : Int32)), .val (.int (3 : Int32)), .val (.ref b228), .val (.ref b233), .val (.ref r251), .val (.int (2 : Int32))] [(.int (1 : Int32))]))
        refine Gl.of (fun _ kq_ => XS.ifNo X259.here hx rfl (hb hby at_346) rfl ((if0 _ _).trans (feq (by decide : ¬ ((1 : Int32) = (0 : Int32)))).1) kq_) ?_
        refine Gl.of (fun _ kq_ => XS.aload X259.here hx rfl (hb hby at_349) rfl rfl kq_) ?_
        refine Gl.of (fun _ kq_ => XS.aload X259.here hx rfl (hb hby at_351) rfl rfl kq_) ?_
        refine Gl.of (fun _ kq_ => XS.iconst X259.here hx rfl (hb hby at_353) kq_) ?_
        refine Gl.of (fun _ kq_ => XS.iload X259.here hx rfl (hb hby at_354) rfl kq_) ?_
        refine Gl.callS0 X259 hx hZ (y := (⟨"com/example/rulr/rulr/policy/MembershipConditionPinLaw", "at", "(Ljava/lang/String;[CII)Z"⟩ : MethodName)) hown (w139 hw) (w140 hw) (w3 hw) (w141 hw) (desc_ne (by decide)) (argsL := [(.ref r251), (.ref b1), (.int (2 : Int32)), (.int (3 : Int32))]) (rest := []) (rmA32 l Z a0 hw _ r251 t251 b1 kb251 k1 (nar .char c2_) (nar .char c5_) (nar .char c8_) (nar .char (32 : Int32)) (nar .char (87 : Int32)) (nar .char (72 : Int32)) (nar .char (69 : Int32)) (nar .char (82 : Int32)) (nar .char (69 : Int32)) (nar .char (32 : Int32)) (nar .char c32_) (nar .char c35_) cz fm n0 SG251 vc252 SC hcz SF rf O251) 0 (by decide) (by decide) e259 (by rw [hml]; rfl) pd_17 rfl rfl (Nat.le_of_eq rfl) (hb hby at_356) (by decide) (by decide) ?_
        intro v260 T260 X260 e260 hv260
        subst hv260
        show Gl p e below _ (T260.setTop (mkF m 359 #[.val (.long p1), .second, .val (.long p2), .second, .val (.int p3), .val (.int p4), .val (.ref b1), .val (.int (1 : Int32)), .val (.int (3 : Int32)), .val (.int (3 : Int32)), .val (.ref b228), .val (.ref b233), .val (.ref r251), .val (.int (2 : Int32))] [(.int (1 : Int32))]))
        refine Gl.of (fun _ kq_ => XS.ifNo X260.here hx rfl (hb hby at_359) rfl ((if0 _ _).trans (feq (by decide : ¬ ((1 : Int32) = (0 : Int32)))).1) kq_) ?_
        refine Gl.of (fun _ kq_ => XS.aload X260.here hx rfl (hb hby at_362) rfl rfl kq_) ?_
        refine Gl.of (fun _ kq_ => XS.aload X260.here hx rfl (hb hby at_364) rfl rfl kq_) ?_
        refine Gl.of (fun _ kq_ => XS.iconst X260.here hx rfl (hb hby at_366) kq_) ?_
        refine Gl.of (fun _ kq_ => XS.iload X260.here hx rfl (hb hby at_367) rfl kq_) ?_
        refine Gl.callS0 X260 hx hZ (y := (⟨"com/example/rulr/rulr/policy/MembershipConditionPinLaw", "at", "(Ljava/lang/String;[CII)Z"⟩ : MethodName)) hown (w139 hw) (w140 hw) (w3 hw) (w141 hw) (desc_ne (by decide)) (argsL := [(.ref r251), (.ref b1), (.int (3 : Int32)), (.int (3 : Int32))]) (rest := []) (rmA33 l Z a0 hw _ r251 t251 b1 kb251 k1 (nar .char c2_) (nar .char c5_) (nar .char c8_) (nar .char (32 : Int32)) (nar .char (87 : Int32)) (nar .char (72 : Int32)) (nar .char (69 : Int32)) (nar .char (82 : Int32)) (nar .char (69 : Int32)) (nar .char (32 : Int32)) (nar .char c32_) (nar .char c35_) cz fm n0 SG251 vc252 SC hcz SF rf O251) 0 (by decide) (by decide) e260 (by rw [hml]; rfl) pd_17 rfl rfl (Nat.le_of_eq rfl) (hb hby at_369) (by decide) (by decide) ?_
        intro v261 T261 X261 e261 hv261
        subst hv261
        show Gl p e below _ (T261.setTop (mkF m 372 #[.val (.long p1), .second, .val (.long p2), .second, .val (.int p3), .val (.int p4), .val (.ref b1), .val (.int (1 : Int32)), .val (.int (3 : Int32)), .val (.int (3 : Int32)), .val (.ref b228), .val (.ref b233), .val (.ref r251), .val (.int (2 : Int32))] [(.int (1 : Int32))]))
        refine Gl.of (fun _ kq_ => XS.ifNo X261.here hx rfl (hb hby at_372) rfl ((if0 _ _).trans (feq (by decide : ¬ ((1 : Int32) = (0 : Int32)))).1) kq_) ?_
        refine Gl.of (fun _ kq_ => XS.aload X261.here hx rfl (hb hby at_375) rfl rfl kq_) ?_
        refine Gl.of (fun _ kq_ => XS.aload X261.here hx rfl (hb hby at_377) rfl rfl kq_) ?_
        refine Gl.of (fun _ kq_ => XS.iconst X261.here hx rfl (hb hby at_379) kq_) ?_
        refine Gl.of (fun _ kq_ => XS.iload X261.here hx rfl (hb hby at_380) rfl kq_) ?_
        refine Gl.callS0 X261 hx hZ (y := (⟨"com/example/rulr/rulr/policy/MembershipConditionPinLaw", "at", "(Ljava/lang/String;[CII)Z"⟩ : MethodName)) hown (w139 hw) (w140 hw) (w3 hw) (w141 hw) (desc_ne (by decide)) (argsL := [(.ref r251), (.ref b1), (.int (4 : Int32)), (.int (3 : Int32))]) (rest := []) (rmA34 l Z a0 hw _ r251 t251 b1 kb251 k1 (nar .char c2_) (nar .char c5_) (nar .char c8_) (nar .char (32 : Int32)) (nar .char (87 : Int32)) (nar .char (72 : Int32)) (nar .char (69 : Int32)) (nar .char (82 : Int32)) (nar .char (69 : Int32)) (nar .char (32 : Int32)) (nar .char c32_) (nar .char c35_) cz fm n0 SG251 vc252 SC hcz SF rf O251) 0 (by decide) (by decide) e261 (by rw [hml]; rfl) pd_17 rfl rfl (Nat.le_of_eq rfl) (hb hby at_382) (by decide) (by decide) ?_
        intro v262 T262 X262 e262 hv262
        subst hv262
        show Gl p e below _ (T262.setTop (mkF m 385 #[.val (.long p1), .second, .val (.long p2), .second, .val (.int p3), .val (.int p4), .val (.ref b1), .val (.int (1 : Int32)), .val (.int (3 : Int32)), .val (.int (3 : Int32)), .val (.ref b228), .val (.ref b233), .val (.ref r251), .val (.int (2 : Int32))] [(.int (1 : Int32))]))
        refine Gl.of (fun _ kq_ => XS.ifNo X262.here hx rfl (hb hby at_385) rfl ((if0 _ _).trans (feq (by decide : ¬ ((1 : Int32) = (0 : Int32)))).1) kq_) ?_
        refine Gl.of (fun _ kq_ => XS.iconst X262.here hx rfl (hb hby at_388) kq_) ?_
        refine Gl.of (fun _ kq_ => XS.goto X262.here hx rfl (pc0 := 389) (pc' := 393) rfl (hb hby at_389) (by decide) (by decide) kq_) ?_
        exact Gl.retNH X262 hx hlk hret (by simp) (hb hby at_393) e262 (⟨rfl, N251⟩) hS251 (Nat.le_refl _) hZ (own_el hw) hR251 (by decide) (by decide)
      refine Gl.of (fun _ kq_ => XS.iload X237.here hx rfl (hb hby at_257) rfl kq_) ?_
      refine Gl.of (fun _ kq_ => XS.bipush X237.here hx rfl (hb hby at_259) kq_) ?_
      refine Gl.of (fun _ kq_ => XS.iand X237.here hx rfl (hb hby at_261) rfl kq_) ?_
      show Gl p e below _ (T237.setTop (mkF m 262 #[.val (.long p1), .second, .val (.long p2), .second, .val (.int p3), .val (.int p4), .val (.ref b1), .val (.int (1 : Int32)), .val (.int (3 : Int32)), .val (.int (3 : Int32)), .val (.ref b228), .unset, .unset, .unset] [(.int (p3 &&& (8 : Int32))), (.int (3 : Int32)), .null, (.ref b228), (.ref r237), (.ref b233), (.ref b233)]))
      by_cases hc262_263 : (p3 &&& (8 : Int32)) = (0 : Int32)
      · refine Gl.of (fun _ kq_ => XS.ifYes X237.here hx rfl (pc0 := 262) (pc' := 269) rfl (hb hby at_262) rfl ((if0 _ _).trans (teq hc262_263).1) (by decide) (by decide) kq_) ?_
        refine Gl.of (fun _ kq_ => XS.iconst X237.here hx rfl (hb hby at_269) kq_) ?_
        show Gl p e below _ (T237.setTop (mkF m 270 #[.val (.long p1), .second, .val (.long p2), .second, .val (.int p3), .val (.int p4), .val (.ref b1), .val (.int (1 : Int32)), .val (.int (3 : Int32)), .val (.int (3 : Int32)), .val (.ref b228), .unset, .unset, .unset] [(.int (0 : Int32)), (.int (3 : Int32)), .null, (.ref b228), (.ref r237), (.ref b233), (.ref b233)]))
        exact J270 _
      · refine Gl.of (fun _ kq_ => XS.ifNo X237.here hx rfl (hb hby at_262) rfl ((if0 _ _).trans (feq hc262_263).1) kq_) ?_
        refine Gl.of (fun _ kq_ => XS.iconst X237.here hx rfl (hb hby at_265) kq_) ?_
        refine Gl.of (fun _ kq_ => XS.goto X237.here hx rfl (pc0 := 266) (pc' := 270) rfl (hb hby at_266) (by decide) (by decide) kq_) ?_
        show Gl p e below _ (T237.setTop (mkF m 270 #[.val (.long p1), .second, .val (.long p2), .second, .val (.int p3), .val (.int p4), .val (.ref b1), .val (.int (1 : Int32)), .val (.int (3 : Int32)), .val (.int (3 : Int32)), .val (.ref b228), .unset, .unset, .unset] [(.int (1 : Int32)), (.int (3 : Int32)), .null, (.ref b228), (.ref r237), (.ref b233), (.ref b233)]))
        exact J270 _
set_option maxRecDepth 65536 in
set_option maxHeartbeats 40000000 in
theorem comes_1 {Post : Tables → Env → Array Value → State → Outcome → State → Prop} (hpost : ∀ tb e args s v u, (limb_1_1.after args s (.returned v) u = true ∧ limb_1_2.after args s (.returned v) u = true ∧ True) → ReturnedEndW s (.returned v) u (Jvm.fieldLocs frame_1_writes args s ++ Jvm.arrayLocs frame_1_arrays args s ++ Jvm.staticLocs frame_1_statics s) 32 1216 → Post tb e args s (.returned v) u) :
    ArmFor flags0 classFile x code maxLocals ret World_1 tables_1 room_1 Calls_1 rest_1 Pre_1 Post := by
  intro l hfl _ _ p e ha hc hk s m args below hf hA hF happ hP
  obtain ⟨hcalls, hrest, hpre⟩ := hP
  obtain ⟨-, -, -, hnamed, -, -, -, hat⟩ := (Spec.applies_iff hf).mp happ
  obtain ⟨hg, hn⟩ := and_e (Cond.before_iff.mp (show (Jvm.Cond.and given_1 narrow_1).before args s = true from hpre))
  obtain ⟨g_c, q_g_c⟩ := and_e hg
  obtain ⟨g_0, q_g_0⟩ := and_e q_g_c
  obtain ⟨g_1, q_g_1⟩ := and_e q_g_0
  obtain ⟨g_2, q_g_2⟩ := and_e q_g_1
  have g_3 := q_g_2
  obtain ⟨w_0, w_1, w_2, w_3, rfl⟩ : ∃ w_0 w_1 w_2 w_3 : Value, args = #[w_0, w_1, w_2, w_3] := by
    have hs : args.size = 4 := by simpa [Cond.value, given_1] using g_c
    obtain ⟨L⟩ := args
    match L, hs with
    | [w_0, w_1, w_2, w_3], _ => exact ⟨w_0, w_1, w_2, w_3, rfl⟩
  have hw := fun d (hd : d ∈ tables_1) => atoms_spec (ws := Jvm.Cond.code x code maxLocals ret :: tables_1) hat d (List.mem_cons_of_mem _ hd)
  have hfit : Fit s := fun {y c} hc i hi => by
    obtain ⟨ha, rfl⟩ := Array.getElem?_eq_some_iff.mp hc
    have q := List.all_eq_true.mp ((Array.all_eq_true_iff_forall_mem.mp hF) _ (Array.getElem_mem ha)) i (List.mem_range.mpr hi)
    simpa [Array.getElem?_eq_getElem hi] using q
  obtain ⟨p1, ei0⟩ := isL_v g_0
  obtain rfl : w_0 = (.long p1) := Option.some.inj ei0
  obtain ⟨p2, ei1⟩ := isL_v g_1
  obtain rfl : w_1 = (.long p2) := Option.some.inj ei1
  obtain ⟨p3, ei2⟩ := is_v g_2
  obtain rfl : w_2 = (.int p3) := Option.some.inj ei2
  obtain ⟨p4, ei3⟩ := is_v g_3
  obtain rfl : w_3 = (.int p4) := Option.some.inj ei3
  obtain ⟨r0, q_r0⟩ := and_e (Cond.before_iff.mp (show rest_1_c.before _ s = true from hrest))
  obtain ⟨r1, q_r1⟩ := and_e q_r0
  obtain ⟨r2, q_r2⟩ := and_e q_r1
  obtain ⟨r3, q_r3⟩ := and_e q_r2
  obtain ⟨r4, q_r4⟩ := and_e q_r3
  obtain ⟨r5, q_r5⟩ := and_e q_r4
  obtain ⟨r6, q_r6⟩ := and_e q_r5
  obtain ⟨r7, q_r7⟩ := and_e q_r6
  obtain ⟨r8, q_r8⟩ := and_e q_r7
  have r9 := q_r8
  obtain ⟨cz, ecz⟩ := is_v r1
  have SC := Sta.start ecz (Or.inl (Cond.before_iff.mpr r0))
  have hcz : ¬ cz = 0 := gotF (Cond.eq_ints ecz (Term.int_eval _)) (not_v r2)
  obtain ⟨fm, efm, rf⟩ := isR_v r8
  have SF := Sta.start efm (Or.inl (Cond.before_iff.mpr r7))
  have hCH := CHv.start (EL := own_EL) (own_el hw) hcalls.1 (show Jvm.Lit.compactW.before _ s = true from Cond.before_iff.mpr r2) (w24 hw) (w7 hw)
  obtain ⟨n, o, h1, h2, h3, _, L, rfl, hQ, -, hq⟩ := rm0 l s _ hw tables_1 s.heap p1 p2 p3 p4 cz fm s.heap.size SC hcz SF rf (Old.start s) p e ha hc hk s m _ below hf ((Spec.applies_iff_loose hf).mp happ).1 ⟨rfl, State.Warmed39.refl s, rfl, hCH⟩ trivial
  obtain ⟨rfl, N⟩ := hQ
  exact ⟨n, _, h1, h2, h3, hpost _ _ _ _ _ _ ⟨Cond.after_iff.mpr rfl, Cond.after_iff.mpr (eq_i res_at (Term.int_eval (1)) rfl), trivial⟩ ⟨hq.1, hq.2.1, hq.2.2.1, (hq.2.2.2.sift fun y hy => Or.inr (N y hy)).mono (by decide) (by decide)⟩⟩
theorem main_1_1 : Claimed_1_1 := comes_1 fun _ _ _ _ _ _ h hF => ⟨h.1, hF⟩
theorem main_1_2 : Claimed_1_2 := comes_1 fun _ _ _ _ _ _ h hF => ⟨h.2.1, hF⟩
end Jvm.Pilot.@@N@@
namespace Jvm.Pilot.@@N@@
open Jvm Jvm.ClassFile Sem Op Lib Jvm.Free Jvm.Stand Jvm.Pilot.@@N@@.Jvm.D
/-! MADE BY PROGRAM (witnessworld.py) out of the Statement's table words and the real class files: 24 classes; the members and pool entries that the words name. The judged class is class 1, her method 3. -/
namespace start1
open Jvm.ClassFile
def u (s : String) : CpInfo := .utf8 (stringToUtf16 s)
/-- a pool by its gaps: so many unusable entries, then the entry; so many at the end -/
def gap : Nat → List CpInfo → List CpInfo
  | 0, r => r
  | n + 1, r => .unusable :: gap n r
def poolList (es : List (Nat × CpInfo)) (last : Nat) : List CpInfo := es.foldr (fun e r => gap e.1 (e.2 :: r)) (gap last [])
def pool (es : List (Nat × CpInfo)) (last : Nat) : Array CpInfo := ⟨poolList es last⟩
def fileOf (pool : Array CpInfo) (this : Nat) (attrs : Array Attribute := #[]) (ms : Array MethodInfo := #[]) (fl : Nat := 33) (sup : Nat := 0) (ifs : Array Nat := #[]) (fds : Array FieldInfo := #[]) : ClassFile where
  minorVersion := 0
  majorVersion := 65
  constantPool := pool
  accessFlags := fl
  thisClass := this
  superClass := sup
  interfaces := ifs
  fields := fds
  methods := ms
  attributes := attrs
def plain (name : String) (sup : Option ClassId) : Class where
  name := name
  kind := .ordinary
  loader := none
  accessFlags := 33
  super := sup
  interfaces := #[]
  cf := none
  fields := #[]
  methods := #[]
  instanceTypes := #[]
  staticTypes := #[]
  resolved := #[]
  callSites := []
  init := .initialized
  statics := none
  mirror := none

def pool0 : Array CpInfo := pool [(5, u "<init>"), (0, u "()V"), (1, .class_ 10), (1, u "java/lang/Object")] 113

def k0c0 : Code := { maxStack := 0, maxLocals := 1, code := object_method_1_code, exceptionTable := #[], attributes := #[] }
def k0m0 : Method := { name := "<init>", desc := "()V", sig := { parameters := [], returnType := none }, accessFlags := 1, code := some k0c0 }
/-- java/lang/Object -/
def k0 : Class := { plain "java/lang/Object" none with
  accessFlags := 33
  interfaces := #[]
  cf := some (fileOf pool0 8 #[] #[{ accessFlags := 1, nameIndex := 5, descriptorIndex := 6, attributes := #[] }] 33 0 #[] #[])
  fields := #[]
  methods := #[k0m0]
  instanceTypes := #[]
  staticTypes := #[]
  resolved := Array.replicate 124 none
  statics := none }

def pool1 : Array CpInfo := pool [(2, .class_ 4), (1, u "java/lang/Object"), (0, u "<init>"), (0, u "()V"), (0, .long 255), (1, .methodref 10 11), (0, .class_ 12), (0, .nameAndType 13 14), (0, u "java/lang/String"), (0, u "length"), (0, u "()I"), (0, .methodref 10 16), (0, .nameAndType 17 18), (0, u "charAt"), (0, u "(I)C"), (0, .methodref 20 21), (0, .class_ 22), (0, .nameAndType 23 24), (0, u "com/example/rulr/rulr/policy/MembershipConditionPinLaw"), (0, u "ch"), (0, u "(JI)C"), (0, .methodref 10 26), (0, .nameAndType 5 27), (0, u "([C)V"), (0, .class_ 29), (0, u "com/example/rulr/rulr/policy/SqlCondition$Membership"), (0, .methodref 10 31), (0, .nameAndType 32 33), (0, u "valueOf"), (0, u "(C)Ljava/lang/String;"), (0, .methodref 28 35), (0, .nameAndType 5 36), (0, u "(Ljava/lang/String;Ljava/lang/String;Lcom/example/rulr/rulr/policy/SqlCondition$Span;IZI)V"), (0, .methodref 28 38), (0, .nameAndType 39 40), (0, u "condition"), (0, u "()Ljava/lang/String;"), (0, .methodref 20 42), (0, .nameAndType 43 44), (0, u "at"), (0, u "(Ljava/lang/String;[CII)Z"), (3, u "law"), (0, u "(JJII)Z")] 11

def k1m0 : Method := { name := "<init>", desc := "()V", sig := { parameters := [], returnType := none }, accessFlags := 2, code := none }
def k1c1 : Code := { maxStack := 4, maxLocals := 3, code := method_2_code, exceptionTable := #[], attributes := #[] }
def k1m1 : Method := { name := "ch", desc := "(JI)C", sig := { parameters := [.long, .int], returnType := some .char }, accessFlags := 10, code := some k1c1 }
def k1c2 : Code := { maxStack := 4, maxLocals := 4, code := method_3_code, exceptionTable := #[], attributes := #[] }
def k1m2 : Method := { name := "at", desc := "(Ljava/lang/String;[CII)Z", sig := { parameters := [(.object "java/lang/String"), (.array .char), .int, .int], returnType := some .boolean }, accessFlags := 10, code := some k1c2 }
def k1c3 : Code := { maxStack := 8, maxLocals := 14, code := code, exceptionTable := #[], attributes := #[] }
def k1m3 : Method := { name := "law", desc := "(JJII)Z", sig := { parameters := [.long, .long, .int, .int], returnType := some .boolean }, accessFlags := 9, code := some k1c3 }
/-- com/example/rulr/rulr/policy/MembershipConditionPinLaw -/
def k1 : Class := { plain "com/example/rulr/rulr/policy/MembershipConditionPinLaw" (some 0) with
  accessFlags := 49
  interfaces := #[]
  cf := some (fileOf pool1 20 #[] #[{ accessFlags := 2, nameIndex := 5, descriptorIndex := 6, attributes := #[] }, { accessFlags := 10, nameIndex := 23, descriptorIndex := 24, attributes := #[] }, { accessFlags := 10, nameIndex := 43, descriptorIndex := 44, attributes := #[] }, { accessFlags := 9, nameIndex := 48, descriptorIndex := 49, attributes := #[] }] 49 2 #[] #[])
  fields := #[]
  methods := #[k1m0, k1m1, k1m2, k1m3]
  instanceTypes := #[]
  staticTypes := #[]
  resolved := Array.replicate 61 none
  statics := none }

def pool2 : Array CpInfo := pool [(1, .class_ 2), (0, u "java/io/Serializable"), (0, .class_ 4), (0, u "java/lang/Object")] 2

/-- java/io/Serializable -/
def k2 : Class := { plain "java/io/Serializable" (some 0) with
  accessFlags := 1537
  interfaces := #[]
  cf := some (fileOf pool2 1 #[] #[] 1537 3 #[] #[])
  fields := #[]
  methods := #[]
  instanceTypes := #[]
  staticTypes := #[]
  resolved := Array.replicate 7 none
  statics := none }

def pool3 : Array CpInfo := pool [(1, .class_ 2), (0, u "java/lang/Comparable"), (0, .class_ 4), (0, u "java/lang/Object")] 7

/-- java/lang/Comparable -/
def k3 : Class := { plain "java/lang/Comparable" (some 0) with
  accessFlags := 1537
  interfaces := #[]
  cf := some (fileOf pool3 1 #[] #[] 1537 3 #[] #[])
  fields := #[]
  methods := #[]
  instanceTypes := #[]
  staticTypes := #[]
  resolved := Array.replicate 12 none
  statics := none }

def pool4 : Array CpInfo := pool [(2, .class_ 4), (1, u "java/lang/CharSequence"), (42, .class_ 48), (0, u "java/lang/CharSequence$1CodePointIterator"), (10, .class_ 60), (0, u "java/lang/CharSequence$1CharIterator"), (5, .class_ 67), (0, u "java/lang/Object")] 63

/-- java/lang/CharSequence -/
def k4 : Class := { plain "java/lang/CharSequence" (some 0) with
  accessFlags := 1537
  interfaces := #[]
  cf := some (fileOf pool4 2 #[.nestMembers #[47, 59]] #[] 1537 66 #[] #[])
  fields := #[]
  methods := #[]
  instanceTypes := #[]
  staticTypes := #[]
  resolved := Array.replicate 131 none
  statics := none }

def pool5 : Array CpInfo := pool [(1, .class_ 2), (0, u "java/lang/constant/Constable"), (0, .class_ 4), (0, u "java/lang/Object")] 6

/-- java/lang/constant/Constable -/
def k5 : Class := { plain "java/lang/constant/Constable" (some 0) with
  accessFlags := 1537
  interfaces := #[]
  cf := some (fileOf pool5 1 #[] #[] 1537 3 #[] #[])
  fields := #[]
  methods := #[]
  instanceTypes := #[]
  staticTypes := #[]
  resolved := Array.replicate 11 none
  statics := none }

def pool6 : Array CpInfo := pool [(1, .class_ 2), (0, u "java/lang/constant/ConstantDesc"), (0, .class_ 4), (0, u "java/lang/Object")] 32

/-- java/lang/constant/ConstantDesc -/
def k6 : Class := { plain "java/lang/constant/ConstantDesc" (some 0) with
  accessFlags := 1537
  interfaces := #[]
  cf := some (fileOf pool6 1 #[] #[] 1537 3 #[] #[])
  fields := #[]
  methods := #[]
  instanceTypes := #[]
  staticTypes := #[]
  resolved := Array.replicate 37 none
  statics := none }

def pool7 : Array CpInfo := pool [(1, .methodref 2 3), (0, .class_ 4), (0, .nameAndType 5 6), (0, u "java/lang/Object"), (0, u "<init>"), (0, u "()V"), (2, .fieldref 10 11), (0, .class_ 12), (0, .nameAndType 13 14), (0, u "java/lang/String"), (0, u "value"), (0, u "[B"), (0, .fieldref 10 16), (0, .nameAndType 17 18), (0, u "coder"), (0, u "B"), (2, u "hash"), (0, u "I"), (2, u "hashIsZero"), (0, u "Z"), (0, .methodref 10 28), (0, .nameAndType 5 29), (0, u "([CIILjava/lang/Void;)V"), (8, .fieldref 10 39), (0, .nameAndType 40 26), (0, u "COMPACT_STRINGS"), (1, .class_ 44), (1, u "java/lang/StringUTF16"), (0, u "compress"), (1, .methodref 42 48), (0, .nameAndType 49 50), (0, u "coderFromArrayLen"), (0, u "([BI)B"), (2, u "toBytes"), (53, .class_ 109), (1, u "java/lang/StringLatin1"), (32, u "()Z"), (34, .methodref 42 178), (0, .nameAndType 45 179), (0, u "([CII)[B"), (29, .methodref 10 210), (0, .nameAndType 5 211), (0, u "([BB)V"), (122, u "()I"), (0, .methodref 10 336), (0, .nameAndType 17 337), (0, u "()B"), (25, u "([BI)C"), (5, u "(C)Z"), (21, u "(II)V"), (35, u "(I)C"), (64, .methodref 10 493), (0, .nameAndType 494 142), (0, u "isLatin1"), (0, .methodref 107 496), (0, .nameAndType 497 363), (0, u "charAt"), (3, u "checkIndex"), (3, .methodref 10 506), (0, .nameAndType 507 334), (0, u "length"), (5, u "checkFromToIndex"), (7, .methodref 10 522), (0, .nameAndType 523 524), (0, u "checkBoundsBeginEnd"), (0, u "(III)V"), (50, .class_ 576), (0, u "java/lang/CharSequence"), (22, u "CASE_INSENSITIVE_ORDER"), (0, u "Ljava/util/Comparator;"), (80, .methodref 10 682), (0, .nameAndType 683 684), (0, u "substring"), (0, u "(II)Ljava/lang/String;"), (0, .methodref 107 686), (0, .nameAndType 687 688), (0, u "newString"), (0, u "([BII)Ljava/lang/String;"), (93, u "valueOf"), (0, u "(C)Ljava/lang/String;"), (108, u "(I)Ljava/lang/String;"), (117, u "([C)V"), (4, .methodref 107 1016), (0, .nameAndType 1017 369), (0, u "canEncode"), (0, .methodref 107 1019), (0, .nameAndType 53 1020), (0, u "(C)[B"), (32, .fieldref 1054 1055), (0, .class_ 1056), (0, .nameAndType 1057 1058), (0, u "jdk/internal/util/Preconditions"), (0, u "SIOOBE_FORMATTER"), (0, u "Ljava/util/function/BiFunction;"), (0, .methodref 1054 1060), (0, .nameAndType 501 1061), (0, u "(IILjava/util/function/BiFunction;)I"), (0, .methodref 1054 1063), (0, .nameAndType 513 1064), (0, u "(IIILjava/util/function/BiFunction;)I"), (36, u "serialPersistentFields"), (0, u "[Ljava/io/ObjectStreamField;"), (0, .class_ 1104), (0, u "java/lang/String$CaseInsensitiveComparator"), (1, .class_ 1107), (0, u "java/io/Serializable"), (0, .class_ 1109), (0, u "java/lang/Comparable"), (0, .class_ 1111), (0, u "java/lang/constant/Constable"), (0, .class_ 1113), (0, u "java/lang/constant/ConstantDesc"), (2, u "serialVersionUID"), (0, u "J"), (3, u "REPL"), (0, u "C"), (2, u "LATIN1"), (1, u "UTF16")] 323

def k7m0 : Method := { name := "<init>", desc := "()V", sig := { parameters := [], returnType := none }, accessFlags := 1, code := none }
def k7c1 : Code := { maxStack := 5, maxLocals := 2, code := jdk_42_method_3_code, exceptionTable := #[], attributes := #[] }
def k7m1 : Method := { name := "<init>", desc := "([C)V", sig := { parameters := [(.array .char)], returnType := none }, accessFlags := 1, code := some k7c1 }
def k7c2 : Code := { maxStack := 2, maxLocals := 1, code := jdk_42_method_54_code, exceptionTable := #[], attributes := #[] }
def k7m2 : Method := { name := "length", desc := "()I", sig := { parameters := [], returnType := some .int }, accessFlags := 1, code := some k7c2 }
def k7c3 : Code := { maxStack := 2, maxLocals := 2, code := jdk_42_method_56_code, exceptionTable := #[], attributes := #[] }
def k7m3 : Method := { name := "charAt", desc := "(I)C", sig := { parameters := [.int], returnType := some .char }, accessFlags := 1, code := some k7c3 }
def k7c4 : Code := { maxStack := 3, maxLocals := 2, code := jdk_42_method_91_code, exceptionTable := #[], attributes := #[] }
def k7m4 : Method := { name := "substring", desc := "(I)Ljava/lang/String;", sig := { parameters := [.int], returnType := some (.object "java/lang/String") }, accessFlags := 1, code := some k7c4 }
def k7c5 : Code := { maxStack := 3, maxLocals := 5, code := jdk_42_method_92_code, exceptionTable := #[], attributes := #[] }
def k7m5 : Method := { name := "substring", desc := "(II)Ljava/lang/String;", sig := { parameters := [.int, .int], returnType := some (.object "java/lang/String") }, accessFlags := 1, code := some k7c5 }
def k7c6 : Code := { maxStack := 4, maxLocals := 1, code := jdk_42_method_139_code, exceptionTable := #[], attributes := #[] }
def k7m6 : Method := { name := "valueOf", desc := "(C)Ljava/lang/String;", sig := { parameters := [.char], returnType := some (.object "java/lang/String") }, accessFlags := 9, code := some k7c6 }
def k7c7 : Code := { maxStack := 4, maxLocals := 6, code := jdk_42_method_149_code, exceptionTable := #[], attributes := #[] }
def k7m7 : Method := { name := "<init>", desc := "([CIILjava/lang/Void;)V", sig := { parameters := [(.array .char), .int, .int, (.object "java/lang/Void")], returnType := none }, accessFlags := 2, code := some k7c7 }
def k7c8 : Code := { maxStack := 2, maxLocals := 3, code := jdk_42_method_151_code, exceptionTable := #[], attributes := #[] }
def k7m8 : Method := { name := "<init>", desc := "([BB)V", sig := { parameters := [(.array .byte), .byte], returnType := none }, accessFlags := 0, code := some k7c8 }
def k7c9 : Code := { maxStack := 1, maxLocals := 1, code := jdk_42_method_152_code, exceptionTable := #[], attributes := #[] }
def k7m9 : Method := { name := "coder", desc := "()B", sig := { parameters := [], returnType := some .byte }, accessFlags := 0, code := some k7c9 }
def k7c10 : Code := { maxStack := 1, maxLocals := 1, code := jdk_42_method_154_code, exceptionTable := #[], attributes := #[] }
def k7m10 : Method := { name := "isLatin1", desc := "()Z", sig := { parameters := [], returnType := some .boolean }, accessFlags := 0, code := some k7c10 }
def k7c11 : Code := { maxStack := 3, maxLocals := 2, code := jdk_42_method_155_code, exceptionTable := #[], attributes := #[] }
def k7m11 : Method := { name := "checkIndex", desc := "(II)V", sig := { parameters := [.int, .int], returnType := none }, accessFlags := 8, code := some k7c11 }
def k7c12 : Code := { maxStack := 4, maxLocals := 3, code := jdk_42_method_158_code, exceptionTable := #[], attributes := #[] }
def k7m12 : Method := { name := "checkBoundsBeginEnd", desc := "(III)V", sig := { parameters := [.int, .int, .int], returnType := none }, accessFlags := 8, code := some k7c12 }
/-- java/lang/String -/
def k7 : Class := { plain "java/lang/String" (some 0) with
  accessFlags := 49
  interfaces := #[2, 3, 4, 5, 6]
  cf := some (fileOf pool7 10 #[.nestMembers #[1103]] #[{ accessFlags := 1, nameIndex := 5, descriptorIndex := 6, attributes := #[] }, { accessFlags := 1, nameIndex := 5, descriptorIndex := 1010, attributes := #[] }, { accessFlags := 1, nameIndex := 507, descriptorIndex := 334, attributes := #[] }, { accessFlags := 1, nameIndex := 497, descriptorIndex := 427, attributes := #[] }, { accessFlags := 1, nameIndex := 683, descriptorIndex := 892, attributes := #[] }, { accessFlags := 1, nameIndex := 683, descriptorIndex := 684, attributes := #[] }, { accessFlags := 9, nameIndex := 782, descriptorIndex := 783, attributes := #[] }, { accessFlags := 2, nameIndex := 5, descriptorIndex := 29, attributes := #[] }, { accessFlags := 0, nameIndex := 5, descriptorIndex := 211, attributes := #[] }, { accessFlags := 0, nameIndex := 17, descriptorIndex := 337, attributes := #[] }, { accessFlags := 0, nameIndex := 494, descriptorIndex := 142, attributes := #[] }, { accessFlags := 8, nameIndex := 501, descriptorIndex := 391, attributes := #[] }, { accessFlags := 8, nameIndex := 523, descriptorIndex := 524, attributes := #[] }] 49 2 #[1106, 1108, 575, 1110, 1112] #[{ accessFlags := 18, nameIndex := 13, descriptorIndex := 14, attributes := #[] }, { accessFlags := 18, nameIndex := 17, descriptorIndex := 18, attributes := #[] }, { accessFlags := 2, nameIndex := 21, descriptorIndex := 22, attributes := #[] }, { accessFlags := 2, nameIndex := 25, descriptorIndex := 26, attributes := #[] }, { accessFlags := 26, nameIndex := 1116, descriptorIndex := 1117, attributes := #[] }, { accessFlags := 24, nameIndex := 40, descriptorIndex := 26, attributes := #[] }, { accessFlags := 26, nameIndex := 1101, descriptorIndex := 1102, attributes := #[] }, { accessFlags := 26, nameIndex := 1121, descriptorIndex := 1122, attributes := #[] }, { accessFlags := 25, nameIndex := 599, descriptorIndex := 600, attributes := #[] }, { accessFlags := 24, nameIndex := 1125, descriptorIndex := 18, attributes := #[] }, { accessFlags := 24, nameIndex := 1127, descriptorIndex := 18, attributes := #[] }])
  fields := #[{ name := "value", type := (.array .byte), accessFlags := 18, slot := 0, constantValue := 0 }, { name := "coder", type := .byte, accessFlags := 18, slot := 1, constantValue := 0 }, { name := "hash", type := .int, accessFlags := 2, slot := 2, constantValue := 0 }, { name := "hashIsZero", type := .boolean, accessFlags := 2, slot := 3, constantValue := 0 }, { name := "serialVersionUID", type := .long, accessFlags := 26, slot := 0, constantValue := 0 }, { name := "COMPACT_STRINGS", type := .boolean, accessFlags := 24, slot := 1, constantValue := 0 }, { name := "serialPersistentFields", type := (.array (.object "java/io/ObjectStreamField")), accessFlags := 26, slot := 2, constantValue := 0 }, { name := "REPL", type := .char, accessFlags := 26, slot := 3, constantValue := 0 }, { name := "CASE_INSENSITIVE_ORDER", type := (.object "java/util/Comparator"), accessFlags := 25, slot := 4, constantValue := 0 }, { name := "LATIN1", type := .byte, accessFlags := 24, slot := 5, constantValue := 0 }, { name := "UTF16", type := .byte, accessFlags := 24, slot := 6, constantValue := 0 }]
  methods := #[k7m0, k7m1, k7m2, k7m3, k7m4, k7m5, k7m6, k7m7, k7m8, k7m9, k7m10, k7m11, k7m12]
  instanceTypes := #[(.array .byte), .byte, .int, .boolean]
  staticTypes := #[.long, .boolean, (.array (.object "java/io/ObjectStreamField")), .char, (.object "java/util/Comparator"), .byte, .byte]
  resolved := Array.replicate 1451 none
  statics := some 0 }

def pool8 : Array CpInfo := pool [(6, .class_ 8), (1, u "java/lang/Object"), (0, u "<init>"), (0, u "()V"), (1, .class_ 14), (1, u "java/lang/StringUTF16"), (31, u "$assertionsDisabled"), (0, u "Z"), (13, u "HI_BYTE_SHIFT"), (0, u "I"), (2, u "LO_BYTE_SHIFT"), (49, .methodref 12 116), (0, .nameAndType 117 118), (0, u "compress"), (0, u "([CI[BII)I"), (3, u "([CII)[B"), (138, u "coderFromArrayLen"), (0, u "([BI)B"), (106, .class_ 371), (1, u "java/lang/StringUTF16$LinesSpliterator"), (58, u "MAX_LENGTH"), (196, .class_ 628), (0, u "java/lang/StringUTF16$CodePointsSpliterator"), (0, .class_ 630), (0, u "java/lang/StringUTF16$CharsSpliterator")] 4

def k8m0 : Method := { name := "<init>", desc := "()V", sig := { parameters := [], returnType := none }, accessFlags := 0, code := none }
def k8c1 : Code := { maxStack := 2, maxLocals := 2, code := jdk_52_method_15_code, exceptionTable := #[], attributes := #[] }
def k8m1 : Method := { name := "coderFromArrayLen", desc := "([BI)B", sig := { parameters := [(.array .byte), .int], returnType := some .byte }, accessFlags := 8, code := some k8c1 }
def k8c2 : Code := { maxStack := 5, maxLocals := 6, code := jdk_52_method_16_code, exceptionTable := #[], attributes := #[] }
def k8m2 : Method := { name := "compress", desc := "([CII)[B", sig := { parameters := [(.array .char), .int, .int], returnType := some (.array .byte) }, accessFlags := 9, code := some k8c2 }
def k8c3 : Code := { maxStack := 3, maxLocals := 7, code := jdk_52_method_21_code, exceptionTable := #[], attributes := #[] }
def k8m3 : Method := { name := "compress", desc := "([CI[BII)I", sig := { parameters := [(.array .char), .int, (.array .byte), .int, .int], returnType := some .int }, accessFlags := 9, code := some k8c3 }
/-- java/lang/StringUTF16 -/
def k8 : Class := { plain "java/lang/StringUTF16" (some 0) with
  accessFlags := 48
  interfaces := #[]
  cf := some (fileOf pool8 12 #[.nestMembers #[627, 629, 369]] #[{ accessFlags := 0, nameIndex := 9, descriptorIndex := 10, attributes := #[] }, { accessFlags := 8, nameIndex := 261, descriptorIndex := 262, attributes := #[] }, { accessFlags := 9, nameIndex := 117, descriptorIndex := 122, attributes := #[] }, { accessFlags := 9, nameIndex := 117, descriptorIndex := 118, attributes := #[] }] 48 6 #[] #[{ accessFlags := 26, nameIndex := 61, descriptorIndex := 62, attributes := #[] }, { accessFlags := 26, nameIndex := 65, descriptorIndex := 62, attributes := #[] }, { accessFlags := 24, nameIndex := 430, descriptorIndex := 62, attributes := #[] }, { accessFlags := 4120, nameIndex := 46, descriptorIndex := 47, attributes := #[] }])
  fields := #[{ name := "HI_BYTE_SHIFT", type := .int, accessFlags := 26, slot := 0, constantValue := 0 }, { name := "LO_BYTE_SHIFT", type := .int, accessFlags := 26, slot := 1, constantValue := 0 }, { name := "MAX_LENGTH", type := .int, accessFlags := 24, slot := 2, constantValue := 0 }, { name := "$assertionsDisabled", type := .boolean, accessFlags := 4120, slot := 3, constantValue := 0 }]
  methods := #[k8m0, k8m1, k8m2, k8m3]
  instanceTypes := #[]
  staticTypes := #[.int, .int, .int, .boolean]
  resolved := Array.replicate 635 none
  statics := none }

def pool9 : Array CpInfo := pool [(1, .methodref 2 3), (0, .class_ 4), (0, .nameAndType 5 6), (0, u "java/lang/Object"), (0, u "<init>"), (0, u "()V"), (0, .class_ 8), (0, u "java/lang/Record")] 13

def k9c0 : Code := { maxStack := 1, maxLocals := 1, code := jdk_30_method_1_code, exceptionTable := #[], attributes := #[] }
def k9m0 : Method := { name := "<init>", desc := "()V", sig := { parameters := [], returnType := none }, accessFlags := 4, code := some k9c0 }
/-- java/lang/Record -/
def k9 : Class := { plain "java/lang/Record" (some 0) with
  accessFlags := 1057
  interfaces := #[]
  cf := some (fileOf pool9 7 #[] #[{ accessFlags := 4, nameIndex := 5, descriptorIndex := 6, attributes := #[] }] 1057 2 #[] #[])
  fields := #[]
  methods := #[k9m0]
  instanceTypes := #[]
  staticTypes := #[]
  resolved := Array.replicate 22 none
  statics := none }

def pool10 : Array CpInfo := pool [(1, .methodref 2 3), (0, .class_ 4), (0, .nameAndType 5 6), (0, u "java/lang/Record"), (0, u "<init>"), (0, u "()V"), (0, .fieldref 8 9), (0, .class_ 10), (0, .nameAndType 11 12), (0, u "com/example/rulr/rulr/policy/SqlCondition$Membership"), (0, u "column"), (0, u "Ljava/lang/String;"), (0, .fieldref 8 14), (0, .nameAndType 15 12), (0, u "query"), (0, .fieldref 8 17), (0, .nameAndType 18 19), (0, u "varying"), (0, u "Lcom/example/rulr/rulr/policy/SqlCondition$Span;"), (0, .fieldref 8 21), (0, .nameAndType 22 23), (0, u "selected"), (0, u "I"), (0, .fieldref 8 25), (0, .nameAndType 26 27), (0, u "anchored"), (0, u "Z"), (0, .fieldref 8 29), (0, .nameAndType 30 23), (0, u "joined"), (9, u "()I"), (1, .class_ 44), (1, u "java/lang/String"), (0, u "substring"), (4, .methodref 42 51), (0, .nameAndType 45 52), (0, u "(I)Ljava/lang/String;"), (6, .methodref 42 60), (0, .nameAndType 61 40), (0, u "length"), (0, .string 63), (0, u " WHERE "), (12, u "WHERE"), (1, u "(Ljava/lang/String;Ljava/lang/String;Lcom/example/rulr/rulr/policy/SqlCondition$Span;IZI)V"), (4, u "()Ljava/lang/String;"), (6, u "condition"), (6, .class_ 98), (0, u "com/example/rulr/rulr/policy/SqlCondition")] 33

def k10c0 : Code := { maxStack := 2, maxLocals := 7, code := prog_56_method_1_code, exceptionTable := #[], attributes := #[] }
def k10m0 : Method := { name := "<init>", desc := "(Ljava/lang/String;Ljava/lang/String;Lcom/example/rulr/rulr/policy/SqlCondition$Span;IZI)V", sig := { parameters := [(.object "java/lang/String"), (.object "java/lang/String"), (.object "com/example/rulr/rulr/policy/SqlCondition$Span"), .int, .boolean, .int], returnType := none }, accessFlags := 0, code := some k10c0 }
def k10c1 : Code := { maxStack := 3, maxLocals := 1, code := prog_56_method_5_code, exceptionTable := #[], attributes := #[] }
def k10m1 : Method := { name := "condition", desc := "()Ljava/lang/String;", sig := { parameters := [], returnType := some (.object "java/lang/String") }, accessFlags := 0, code := some k10c1 }
/-- com/example/rulr/rulr/policy/SqlCondition$Membership -/
def k10 : Class := { plain "com/example/rulr/rulr/policy/SqlCondition$Membership" (some 9) with
  accessFlags := 48
  interfaces := #[]
  cf := some (fileOf pool10 8 #[.nestHost 97] #[{ accessFlags := 0, nameIndex := 5, descriptorIndex := 78, attributes := #[] }, { accessFlags := 0, nameIndex := 90, descriptorIndex := 83, attributes := #[] }] 48 2 #[] #[{ accessFlags := 18, nameIndex := 11, descriptorIndex := 12, attributes := #[] }, { accessFlags := 18, nameIndex := 15, descriptorIndex := 12, attributes := #[] }, { accessFlags := 18, nameIndex := 18, descriptorIndex := 19, attributes := #[] }, { accessFlags := 18, nameIndex := 22, descriptorIndex := 23, attributes := #[] }, { accessFlags := 18, nameIndex := 26, descriptorIndex := 27, attributes := #[] }, { accessFlags := 18, nameIndex := 30, descriptorIndex := 23, attributes := #[] }, { accessFlags := 24, nameIndex := 76, descriptorIndex := 12, attributes := #[] }])
  fields := #[{ name := "column", type := (.object "java/lang/String"), accessFlags := 18, slot := 0, constantValue := 0 }, { name := "query", type := (.object "java/lang/String"), accessFlags := 18, slot := 1, constantValue := 0 }, { name := "varying", type := (.object "com/example/rulr/rulr/policy/SqlCondition$Span"), accessFlags := 18, slot := 2, constantValue := 0 }, { name := "selected", type := .int, accessFlags := 18, slot := 3, constantValue := 0 }, { name := "anchored", type := .boolean, accessFlags := 18, slot := 4, constantValue := 0 }, { name := "joined", type := .int, accessFlags := 18, slot := 5, constantValue := 0 }, { name := "WHERE", type := (.object "java/lang/String"), accessFlags := 24, slot := 0, constantValue := 0 }]
  methods := #[k10m0, k10m1]
  instanceTypes := #[(.object "java/lang/String"), (.object "java/lang/String"), (.object "com/example/rulr/rulr/policy/SqlCondition$Span"), .int, .boolean, .int]
  staticTypes := #[(.object "java/lang/String")]
  resolved := Array.replicate 132 none
  statics := none }

def pool11 : Array CpInfo := pool [(1, .class_ 2), (0, u "java/lang/String"), (1, .class_ 6), (1, u "java/lang/Object"), (0, u "<init>"), (0, u "()V"), (0, .methodref 1 10), (0, .nameAndType 11 12), (0, u "checkIndex"), (0, u "(II)V"), (1, .class_ 16), (1, u "java/lang/StringLatin1"), (36, u "([BI)C"), (36, u "canEncode"), (14, u "(C)Z"), (6, .methodref 1 113), (0, .nameAndType 7 114), (0, u "([BB)V"), (6, u "$assertionsDisabled"), (0, u "Z"), (8, .class_ 133), (1, u "java/util/Arrays"), (62, u "newString"), (0, u "([BII)Ljava/lang/String;"), (23, .class_ 223), (1, u "java/lang/StringLatin1$LinesSpliterator"), (8, .methodref 131 233), (0, .nameAndType 234 235), (0, u "copyOfRange"), (0, u "([BII)[B"), (16, u "charAt"), (127, u "toBytes"), (1, u "(C)[B"), (7, .class_ 391), (0, u "java/lang/StringLatin1$CharsSpliterator")] 3

def k11m0 : Method := { name := "<init>", desc := "()V", sig := { parameters := [], returnType := none }, accessFlags := 0, code := none }
def k11c1 : Code := { maxStack := 2, maxLocals := 2, code := jdk_43_method_2_code, exceptionTable := #[], attributes := #[] }
def k11m1 : Method := { name := "charAt", desc := "([BI)C", sig := { parameters := [(.array .byte), .int], returnType := some .char }, accessFlags := 9, code := some k11c1 }
def k11c2 : Code := { maxStack := 2, maxLocals := 1, code := jdk_43_method_3_code, exceptionTable := #[], attributes := #[] }
def k11m2 : Method := { name := "canEncode", desc := "(C)Z", sig := { parameters := [.char], returnType := some .boolean }, accessFlags := 9, code := some k11c2 }
def k11c3 : Code := { maxStack := 4, maxLocals := 1, code := jdk_43_method_46_code, exceptionTable := #[], attributes := #[] }
def k11m3 : Method := { name := "toBytes", desc := "(C)[B", sig := { parameters := [.char], returnType := some (.array .byte) }, accessFlags := 9, code := some k11c3 }
def k11c4 : Code := { maxStack := 6, maxLocals := 3, code := jdk_43_method_47_code, exceptionTable := #[], attributes := #[] }
def k11m4 : Method := { name := "newString", desc := "([BII)Ljava/lang/String;", sig := { parameters := [(.array .byte), .int, .int], returnType := some (.object "java/lang/String") }, accessFlags := 9, code := some k11c4 }
/-- java/lang/StringLatin1 -/
def k11 : Class := { plain "java/lang/StringLatin1" (some 0) with
  accessFlags := 48
  interfaces := #[]
  cf := some (fileOf pool11 14 #[.nestMembers #[390, 221]] #[{ accessFlags := 0, nameIndex := 7, descriptorIndex := 8, attributes := #[] }, { accessFlags := 9, nameIndex := 252, descriptorIndex := 53, attributes := #[] }, { accessFlags := 9, nameIndex := 90, descriptorIndex := 105, attributes := #[] }, { accessFlags := 9, nameIndex := 380, descriptorIndex := 382, attributes := #[] }, { accessFlags := 9, nameIndex := 196, descriptorIndex := 197, attributes := #[] }] 48 4 #[] #[{ accessFlags := 4120, nameIndex := 121, descriptorIndex := 122, attributes := #[] }])
  fields := #[{ name := "$assertionsDisabled", type := .boolean, accessFlags := 4120, slot := 0, constantValue := 0 }]
  methods := #[k11m0, k11m1, k11m2, k11m3, k11m4]
  instanceTypes := #[]
  staticTypes := #[.boolean]
  resolved := Array.replicate 395 none
  statics := none }

def pool12 : Array CpInfo := pool [(2, .class_ 4), (1, u "java/lang/Object"), (0, u "<init>"), (0, u "()V"), (17, .class_ 26), (1, u "jdk/internal/util/Preconditions"), (6, u "checkIndex"), (13, u "checkFromToIndex"), (7, .class_ 56), (0, u "jdk/internal/util/Preconditions$4"), (57, .class_ 115), (0, u "jdk/internal/util/Preconditions$1"), (7, u "SIOOBE_FORMATTER"), (0, u "Ljava/util/function/BiFunction;"), (0, .class_ 126), (0, u "jdk/internal/util/Preconditions$2"), (3, u "AIOOBE_FORMATTER"), (0, .class_ 132), (0, u "jdk/internal/util/Preconditions$3"), (3, u "IOOBE_FORMATTER"), (41, u "(IILjava/util/function/BiFunction;)I"), (4, u "(IIILjava/util/function/BiFunction;)I")] 10

def k12m0 : Method := { name := "<init>", desc := "()V", sig := { parameters := [], returnType := none }, accessFlags := 1, code := none }
def k12c1 : Code := { maxStack := 3, maxLocals := 3, code := jdk_41_method_11_code, exceptionTable := #[], attributes := #[] }
def k12m1 : Method := { name := "checkIndex", desc := "(IILjava/util/function/BiFunction;)I", sig := { parameters := [.int, .int, (.object "java/util/function/BiFunction")], returnType := some .int }, accessFlags := 9, code := some k12c1 }
def k12c2 : Code := { maxStack := 4, maxLocals := 4, code := jdk_41_method_12_code, exceptionTable := #[], attributes := #[] }
def k12m2 : Method := { name := "checkFromToIndex", desc := "(IIILjava/util/function/BiFunction;)I", sig := { parameters := [.int, .int, .int, (.object "java/util/function/BiFunction")], returnType := some .int }, accessFlags := 9, code := some k12c2 }
/-- jdk/internal/util/Preconditions -/
def k12 : Class := { plain "jdk/internal/util/Preconditions" (some 0) with
  accessFlags := 33
  interfaces := #[]
  cf := some (fileOf pool12 24 #[.nestMembers #[55, 131, 125, 114]] #[{ accessFlags := 1, nameIndex := 5, descriptorIndex := 6, attributes := #[] }, { accessFlags := 9, nameIndex := 33, descriptorIndex := 178, attributes := #[] }, { accessFlags := 9, nameIndex := 47, descriptorIndex := 183, attributes := #[] }] 33 2 #[] #[{ accessFlags := 25, nameIndex := 123, descriptorIndex := 124, attributes := #[] }, { accessFlags := 25, nameIndex := 130, descriptorIndex := 124, attributes := #[] }, { accessFlags := 25, nameIndex := 136, descriptorIndex := 124, attributes := #[] }])
  fields := #[{ name := "SIOOBE_FORMATTER", type := (.object "java/util/function/BiFunction"), accessFlags := 25, slot := 0, constantValue := 0 }, { name := "AIOOBE_FORMATTER", type := (.object "java/util/function/BiFunction"), accessFlags := 25, slot := 1, constantValue := 0 }, { name := "IOOBE_FORMATTER", type := (.object "java/util/function/BiFunction"), accessFlags := 25, slot := 2, constantValue := 0 }]
  methods := #[k12m0, k12m1, k12m2]
  instanceTypes := #[]
  staticTypes := #[(.object "java/util/function/BiFunction"), (.object "java/util/function/BiFunction"), (.object "java/util/function/BiFunction")]
  resolved := Array.replicate 194 none
  statics := some 1 }

def pool13 : Array CpInfo := pool [(2, .class_ 4), (1, u "java/lang/Object"), (0, u "<init>"), (0, u "()V"), (7, .class_ 16), (1, u "java/util/Arrays"), (57, .class_ 76), (1, u "java/util/Arrays$NaturalOrder"), (36, .class_ 115), (1, u "java/util/Arrays$LegacyMergeSort"), (1, u "Z"), (21, u "copyOfRange"), (10, .methodref 151 152), (0, .class_ 153), (0, .nameAndType 154 155), (0, u "java/lang/System"), (0, u "arraycopy"), (0, u "(Ljava/lang/Object;ILjava/lang/Object;II)V"), (148, .methodref 305 306), (0, .class_ 307), (0, .nameAndType 308 309), (0, u "java/lang/Math"), (0, u "min"), (0, u "(II)I"), (29, .methodref 14 340), (0, .nameAndType 341 342), (0, u "copyOfRangeByte"), (0, u "([BII)[B"), (0, .methodref 14 344), (0, .nameAndType 345 346), (0, u "checkLength"), (0, u "(II)V"), (28, .class_ 376), (0, u "java/util/Arrays$ArrayList"), (68, u "$assertionsDisabled"), (269, u "MIN_ARRAY_SORT_GRAN"), (0, u "I"), (2, u "INSERTIONSORT_THRESHOLD"), (255, .class_ 976), (0, u "java/util/Arrays$ArrayItr")] 52

def k13m0 : Method := { name := "<init>", desc := "()V", sig := { parameters := [], returnType := none }, accessFlags := 2, code := none }
def k13c1 : Code := { maxStack := 4, maxLocals := 2, code := jdk_65_method_131_code, exceptionTable := #[], attributes := #[] }
def k13m1 : Method := { name := "checkLength", desc := "(II)V", sig := { parameters := [.int, .int], returnType := none }, accessFlags := 10, code := some k13c1 }
def k13c2 : Code := { maxStack := 3, maxLocals := 3, code := jdk_65_method_132_code, exceptionTable := #[], attributes := #[] }
def k13m2 : Method := { name := "copyOfRange", desc := "([BII)[B", sig := { parameters := [(.array .byte), .int, .int], returnType := some (.array .byte) }, accessFlags := 9, code := some k13c2 }
def k13c3 : Code := { maxStack := 6, maxLocals := 5, code := jdk_65_method_133_code, exceptionTable := #[], attributes := #[] }
def k13m3 : Method := { name := "copyOfRangeByte", desc := "([BII)[B", sig := { parameters := [(.array .byte), .int, .int], returnType := some (.array .byte) }, accessFlags := 10, code := some k13c3 }
/-- java/util/Arrays -/
def k13 : Class := { plain "java/util/Arrays" (some 0) with
  accessFlags := 49
  interfaces := #[]
  cf := some (fileOf pool13 14 #[.nestMembers #[975, 375, 113, 74]] #[{ accessFlags := 2, nameIndex := 5, descriptorIndex := 6, attributes := #[] }, { accessFlags := 10, nameIndex := 345, descriptorIndex := 346, attributes := #[] }, { accessFlags := 9, nameIndex := 139, descriptorIndex := 342, attributes := #[] }, { accessFlags := 10, nameIndex := 341, descriptorIndex := 342, attributes := #[] }] 49 2 #[] #[{ accessFlags := 26, nameIndex := 715, descriptorIndex := 716, attributes := #[] }, { accessFlags := 26, nameIndex := 719, descriptorIndex := 716, attributes := #[] }, { accessFlags := 4120, nameIndex := 445, descriptorIndex := 117, attributes := #[] }])
  fields := #[{ name := "MIN_ARRAY_SORT_GRAN", type := .int, accessFlags := 26, slot := 0, constantValue := 0 }, { name := "INSERTIONSORT_THRESHOLD", type := .int, accessFlags := 26, slot := 1, constantValue := 0 }, { name := "$assertionsDisabled", type := .boolean, accessFlags := 4120, slot := 2, constantValue := 0 }]
  methods := #[k13m0, k13m1, k13m2, k13m3]
  instanceTypes := #[]
  staticTypes := #[.int, .int, .boolean]
  resolved := Array.replicate 1029 none
  statics := none }

def pool14 : Array CpInfo := pool [(1, .class_ 2), (0, u "java/lang/Math"), (1, .class_ 6), (1, u "java/lang/Object"), (0, u "<init>"), (0, u "()V"), (89, .class_ 100), (1, u "java/lang/Math$RandomNumberGeneratorHolder"), (71, u "negativeZeroFloatBits"), (0, u "J"), (2, u "negativeZeroDoubleBits"), (24, u "min"), (43, u "$assertionsDisabled"), (0, u "Z"), (88, u "(II)I"), (2, u "twoToTheDoubleScaleDown"), (0, u "D"), (4, u "twoToTheDoubleScaleUp"), (9, u "E"), (3, u "PI"), (2, u "TAU"), (2, u "DEGREES_TO_RADIANS"), (0, u "RADIANS_TO_DEGREES")] 94

def k14m0 : Method := { name := "<init>", desc := "()V", sig := { parameters := [], returnType := none }, accessFlags := 2, code := none }
def k14c1 : Code := { maxStack := 2, maxLocals := 2, code := jdk_29_method_69_code, exceptionTable := #[], attributes := #[] }
def k14m1 : Method := { name := "min", desc := "(II)I", sig := { parameters := [.int, .int], returnType := some .int }, accessFlags := 9, code := some k14c1 }
/-- java/lang/Math -/
def k14 : Class := { plain "java/lang/Math" (some 0) with
  accessFlags := 49
  interfaces := #[]
  cf := some (fileOf pool14 1 #[.nestMembers #[98]] #[{ accessFlags := 2, nameIndex := 7, descriptorIndex := 8, attributes := #[] }, { accessFlags := 9, nameIndex := 201, descriptorIndex := 335, attributes := #[] }] 49 4 #[] #[{ accessFlags := 25, nameIndex := 354, descriptorIndex := 339, attributes := #[] }, { accessFlags := 25, nameIndex := 358, descriptorIndex := 339, attributes := #[] }, { accessFlags := 25, nameIndex := 361, descriptorIndex := 339, attributes := #[] }, { accessFlags := 26, nameIndex := 364, descriptorIndex := 339, attributes := #[] }, { accessFlags := 26, nameIndex := 365, descriptorIndex := 339, attributes := #[] }, { accessFlags := 26, nameIndex := 172, descriptorIndex := 173, attributes := #[] }, { accessFlags := 26, nameIndex := 176, descriptorIndex := 173, attributes := #[] }, { accessFlags := 8, nameIndex := 344, descriptorIndex := 339, attributes := #[] }, { accessFlags := 8, nameIndex := 338, descriptorIndex := 339, attributes := #[] }, { accessFlags := 4120, nameIndex := 245, descriptorIndex := 246, attributes := #[] }])
  fields := #[{ name := "E", type := .double, accessFlags := 25, slot := 0, constantValue := 0 }, { name := "PI", type := .double, accessFlags := 25, slot := 1, constantValue := 0 }, { name := "TAU", type := .double, accessFlags := 25, slot := 2, constantValue := 0 }, { name := "DEGREES_TO_RADIANS", type := .double, accessFlags := 26, slot := 3, constantValue := 0 }, { name := "RADIANS_TO_DEGREES", type := .double, accessFlags := 26, slot := 4, constantValue := 0 }, { name := "negativeZeroFloatBits", type := .long, accessFlags := 26, slot := 5, constantValue := 0 }, { name := "negativeZeroDoubleBits", type := .long, accessFlags := 26, slot := 6, constantValue := 0 }, { name := "twoToTheDoubleScaleUp", type := .double, accessFlags := 8, slot := 7, constantValue := 0 }, { name := "twoToTheDoubleScaleDown", type := .double, accessFlags := 8, slot := 8, constantValue := 0 }, { name := "$assertionsDisabled", type := .boolean, accessFlags := 4120, slot := 9, constantValue := 0 }]
  methods := #[k14m0, k14m1]
  instanceTypes := #[]
  staticTypes := #[.double, .double, .double, .double, .double, .long, .long, .double, .double, .boolean]
  resolved := Array.replicate 460 none
  statics := none }

def pool15 : Array CpInfo := pool [(2, .class_ 4), (1, u "java/lang/Object"), (0, u "<init>"), (0, u "()V"), (1, .class_ 10), (1, u "java/lang/System"), (0, u "allowSecurityManager"), (0, u "I"), (16, u "cons"), (0, u "Ljava/io/Console;"), (77, .class_ 110), (1, u "java/lang/System$CallersHolder"), (43, u "initialErrStream"), (0, u "Ljava/io/PrintStream;"), (19, u "security"), (0, u "Ljava/lang/SecurityManager;"), (31, .class_ 209), (0, u "java/lang/System$1"), (7, u "props"), (0, u "Ljava/util/Properties;"), (2, u "lineSeparator"), (0, u "Ljava/lang/String;"), (96, .class_ 321), (1, u "java/lang/System$LoggerFinder"), (5, .class_ 328), (0, u "java/lang/System$Logger"), (67, u "err"), (2, u "out"), (91, u "notSupportedJnuEncoding"), (15, u "in"), (17, u "initialIn"), (0, u "Ljava/io/InputStream;"), (35, u "bootLayer"), (0, u "Ljava/lang/ModuleLayer;"), (99, .class_ 664), (0, u "java/lang/System$2"), (9, u "NEVER"), (2, u "MAYBE"), (49, u "arraycopy"), (0, u "(Ljava/lang/Object;ILjava/lang/Object;II)V"), (72, .class_ 802), (0, u "java/lang/System$Logger$Level")] 31

def k15m0 : Method := { name := "<init>", desc := "()V", sig := { parameters := [], returnType := none }, accessFlags := 2, code := none }
def k15m1 : Method := { name := "arraycopy", desc := "(Ljava/lang/Object;ILjava/lang/Object;II)V", sig := { parameters := [(.object "java/lang/Object"), .int, (.object "java/lang/Object"), .int, .int], returnType := none }, accessFlags := 265, code := none }
/-- java/lang/System -/
def k15 : Class := { plain "java/lang/System" (some 0) with
  accessFlags := 49
  interfaces := #[]
  cf := some (fileOf pool15 8 #[.nestMembers #[319, 327, 801, 108, 663, 208]] #[{ accessFlags := 2, nameIndex := 5, descriptorIndex := 6, attributes := #[] }, { accessFlags := 265, nameIndex := 727, descriptorIndex := 728, attributes := #[] }] 49 2 #[] #[{ accessFlags := 25, nameIndex := 507, descriptorIndex := 526, attributes := #[] }, { accessFlags := 25, nameIndex := 399, descriptorIndex := 155, attributes := #[] }, { accessFlags := 25, nameIndex := 396, descriptorIndex := 155, attributes := #[] }, { accessFlags := 10, nameIndex := 525, descriptorIndex := 526, attributes := #[] }, { accessFlags := 26, nameIndex := 674, descriptorIndex := 12, attributes := #[] }, { accessFlags := 26, nameIndex := 677, descriptorIndex := 12, attributes := #[] }, { accessFlags := 10, nameIndex := 11, descriptorIndex := 12, attributes := #[] }, { accessFlags := 74, nameIndex := 175, descriptorIndex := 176, attributes := #[] }, { accessFlags := 10, nameIndex := 491, descriptorIndex := 222, attributes := #[] }, { accessFlags := 74, nameIndex := 29, descriptorIndex := 30, attributes := #[] }, { accessFlags := 74, nameIndex := 154, descriptorIndex := 155, attributes := #[] }, { accessFlags := 10, nameIndex := 217, descriptorIndex := 218, attributes := #[] }, { accessFlags := 10, nameIndex := 221, descriptorIndex := 222, attributes := #[] }, { accessFlags := 8, nameIndex := 562, descriptorIndex := 563, attributes := #[] }])
  fields := #[{ name := "in", type := (.object "java/io/InputStream"), accessFlags := 25, slot := 0, constantValue := 0 }, { name := "out", type := (.object "java/io/PrintStream"), accessFlags := 25, slot := 1, constantValue := 0 }, { name := "err", type := (.object "java/io/PrintStream"), accessFlags := 25, slot := 2, constantValue := 0 }, { name := "initialIn", type := (.object "java/io/InputStream"), accessFlags := 10, slot := 3, constantValue := 0 }, { name := "NEVER", type := .int, accessFlags := 26, slot := 4, constantValue := 0 }, { name := "MAYBE", type := .int, accessFlags := 26, slot := 5, constantValue := 0 }, { name := "allowSecurityManager", type := .int, accessFlags := 10, slot := 6, constantValue := 0 }, { name := "security", type := (.object "java/lang/SecurityManager"), accessFlags := 74, slot := 7, constantValue := 0 }, { name := "notSupportedJnuEncoding", type := (.object "java/lang/String"), accessFlags := 10, slot := 8, constantValue := 0 }, { name := "cons", type := (.object "java/io/Console"), accessFlags := 74, slot := 9, constantValue := 0 }, { name := "initialErrStream", type := (.object "java/io/PrintStream"), accessFlags := 74, slot := 10, constantValue := 0 }, { name := "props", type := (.object "java/util/Properties"), accessFlags := 10, slot := 11, constantValue := 0 }, { name := "lineSeparator", type := (.object "java/lang/String"), accessFlags := 10, slot := 12, constantValue := 0 }, { name := "bootLayer", type := (.object "java/lang/ModuleLayer"), accessFlags := 8, slot := 13, constantValue := 0 }]
  methods := #[k15m0, k15m1]
  instanceTypes := #[]
  staticTypes := #[(.object "java/io/InputStream"), (.object "java/io/PrintStream"), (.object "java/io/PrintStream"), (.object "java/io/InputStream"), .int, .int, .int, (.object "java/lang/SecurityManager"), (.object "java/lang/String"), (.object "java/io/Console"), (.object "java/io/PrintStream"), (.object "java/util/Properties"), (.object "java/lang/String"), (.object "java/lang/ModuleLayer")]
  resolved := Array.replicate 834 none
  statics := none }

def pool16 : Array CpInfo := pool [(9, u "<init>"), (6, .class_ 18), (1, u "java/lang/Object"), (0, u "()V"), (1, .class_ 23), (1, u "jdk/internal/util/ArraysSupport"), (0, u "LOG2_ARRAY_LONG_INDEX_SCALE"), (0, u "I"), (2, u "U"), (0, u "Ljdk/internal/misc/Unsafe;"), (8, u "BIG_ENDIAN"), (0, u "Z"), (8, u "LOG2_BYTE_BIT_SIZE"), (4, u "LOG2_ARRAY_INT_INDEX_SCALE"), (54, u "JLA"), (0, u "Ljdk/internal/access/JavaLangAccess;"), (11, u "LOG2_ARRAY_BOOLEAN_INDEX_SCALE"), (9, u "LOG2_ARRAY_BYTE_INDEX_SCALE"), (5, u "LOG2_ARRAY_CHAR_INDEX_SCALE"), (5, u "LOG2_ARRAY_SHORT_INDEX_SCALE"), (18, u "LOG2_ARRAY_FLOAT_INDEX_SCALE"), (24, u "LOG2_ARRAY_DOUBLE_INDEX_SCALE"), (89, u "T_BOOLEAN"), (2, u "T_CHAR"), (1, u "T_FLOAT"), (1, u "T_DOUBLE"), (1, u "T_BYTE"), (1, u "T_SHORT"), (1, u "T_INT"), (1, u "T_LONG"), (1, u "SOFT_MAX_ARRAY_LENGTH")] 83

def k16m0 : Method := { name := "<init>", desc := "()V", sig := { parameters := [], returnType := none }, accessFlags := 2, code := none }
/-- jdk/internal/util/ArraysSupport -/
def k16 : Class := { plain "jdk/internal/util/ArraysSupport" (some 0) with
  accessFlags := 33
  interfaces := #[]
  cf := some (fileOf pool16 21 #[] #[{ accessFlags := 2, nameIndex := 9, descriptorIndex := 19, attributes := #[] }] 33 16 #[] #[{ accessFlags := 24, nameIndex := 28, descriptorIndex := 29, attributes := #[] }, { accessFlags := 26, nameIndex := 38, descriptorIndex := 39, attributes := #[] }, { accessFlags := 25, nameIndex := 121, descriptorIndex := 25, attributes := #[] }, { accessFlags := 25, nameIndex := 131, descriptorIndex := 25, attributes := #[] }, { accessFlags := 25, nameIndex := 137, descriptorIndex := 25, attributes := #[] }, { accessFlags := 25, nameIndex := 143, descriptorIndex := 25, attributes := #[] }, { accessFlags := 25, nameIndex := 53, descriptorIndex := 25, attributes := #[] }, { accessFlags := 25, nameIndex := 24, descriptorIndex := 25, attributes := #[] }, { accessFlags := 25, nameIndex := 162, descriptorIndex := 25, attributes := #[] }, { accessFlags := 25, nameIndex := 187, descriptorIndex := 25, attributes := #[] }, { accessFlags := 26, nameIndex := 48, descriptorIndex := 25, attributes := #[] }, { accessFlags := 25, nameIndex := 277, descriptorIndex := 25, attributes := #[] }, { accessFlags := 25, nameIndex := 280, descriptorIndex := 25, attributes := #[] }, { accessFlags := 25, nameIndex := 282, descriptorIndex := 25, attributes := #[] }, { accessFlags := 25, nameIndex := 284, descriptorIndex := 25, attributes := #[] }, { accessFlags := 25, nameIndex := 286, descriptorIndex := 25, attributes := #[] }, { accessFlags := 25, nameIndex := 288, descriptorIndex := 25, attributes := #[] }, { accessFlags := 25, nameIndex := 290, descriptorIndex := 25, attributes := #[] }, { accessFlags := 25, nameIndex := 292, descriptorIndex := 25, attributes := #[] }, { accessFlags := 26, nameIndex := 108, descriptorIndex := 109, attributes := #[] }, { accessFlags := 25, nameIndex := 294, descriptorIndex := 25, attributes := #[] }])
  fields := #[{ name := "U", type := (.object "jdk/internal/misc/Unsafe"), accessFlags := 24, slot := 0, constantValue := 0 }, { name := "BIG_ENDIAN", type := .boolean, accessFlags := 26, slot := 1, constantValue := 0 }, { name := "LOG2_ARRAY_BOOLEAN_INDEX_SCALE", type := .int, accessFlags := 25, slot := 2, constantValue := 0 }, { name := "LOG2_ARRAY_BYTE_INDEX_SCALE", type := .int, accessFlags := 25, slot := 3, constantValue := 0 }, { name := "LOG2_ARRAY_CHAR_INDEX_SCALE", type := .int, accessFlags := 25, slot := 4, constantValue := 0 }, { name := "LOG2_ARRAY_SHORT_INDEX_SCALE", type := .int, accessFlags := 25, slot := 5, constantValue := 0 }, { name := "LOG2_ARRAY_INT_INDEX_SCALE", type := .int, accessFlags := 25, slot := 6, constantValue := 0 }, { name := "LOG2_ARRAY_LONG_INDEX_SCALE", type := .int, accessFlags := 25, slot := 7, constantValue := 0 }, { name := "LOG2_ARRAY_FLOAT_INDEX_SCALE", type := .int, accessFlags := 25, slot := 8, constantValue := 0 }, { name := "LOG2_ARRAY_DOUBLE_INDEX_SCALE", type := .int, accessFlags := 25, slot := 9, constantValue := 0 }, { name := "LOG2_BYTE_BIT_SIZE", type := .int, accessFlags := 26, slot := 10, constantValue := 0 }, { name := "T_BOOLEAN", type := .int, accessFlags := 25, slot := 11, constantValue := 0 }, { name := "T_CHAR", type := .int, accessFlags := 25, slot := 12, constantValue := 0 }, { name := "T_FLOAT", type := .int, accessFlags := 25, slot := 13, constantValue := 0 }, { name := "T_DOUBLE", type := .int, accessFlags := 25, slot := 14, constantValue := 0 }, { name := "T_BYTE", type := .int, accessFlags := 25, slot := 15, constantValue := 0 }, { name := "T_SHORT", type := .int, accessFlags := 25, slot := 16, constantValue := 0 }, { name := "T_INT", type := .int, accessFlags := 25, slot := 17, constantValue := 0 }, { name := "T_LONG", type := .int, accessFlags := 25, slot := 18, constantValue := 0 }, { name := "JLA", type := (.object "jdk/internal/access/JavaLangAccess"), accessFlags := 26, slot := 19, constantValue := 0 }, { name := "SOFT_MAX_ARRAY_LENGTH", type := .int, accessFlags := 25, slot := 20, constantValue := 0 }]
  methods := #[k16m0]
  instanceTypes := #[]
  staticTypes := #[(.object "jdk/internal/misc/Unsafe"), .boolean, .int, .int, .int, .int, .int, .int, .int, .int, .int, .int, .int, .int, .int, .int, .int, .int, .int, (.object "jdk/internal/access/JavaLangAccess"), .int]
  resolved := Array.replicate 378 none
  statics := none }

def pool17 : Array CpInfo := pool [(1, u "java/lang/Cloneable"), (0, .class_ 1), (0, u "java/lang/Object"), (0, .class_ 3)] 3

/-- java/lang/Cloneable -/
def k17 : Class := { plain "java/lang/Cloneable" (some 0) with
  accessFlags := 1537
  interfaces := #[]
  cf := some (fileOf pool17 2 #[] #[] 1537 4 #[] #[])
  fields := #[]
  methods := #[]
  instanceTypes := #[]
  staticTypes := #[]
  resolved := Array.replicate 8 none
  statics := none }

/-- the primitive byte -/
def k18 : Class := { plain "byte" none with kind := .primitive 'B', accessFlags := 0x411 }
/-- [B -/
def k19 : Class := { plain "[B" (some 0) with kind := .array 18 .byte, interfaces := #[17, 2], accessFlags := 1041 }

/-- the primitive char -/
def k20 : Class := { plain "char" none with kind := .primitive 'C', accessFlags := 0x411 }
/-- [C -/
def k21 : Class := { plain "[C" (some 0) with kind := .array 20 .char, interfaces := #[17, 2], accessFlags := 1041 }

/-- the primitive int -/
def k22 : Class := { plain "int" none with kind := .primitive 'I', accessFlags := 0x411 }
/-- [I -/
def k23 : Class := { plain "[I" (some 0) with kind := .array 22 .int, interfaces := #[17, 2], accessFlags := 1041 }

def heap : Heap := #[{ cls := 7, slots := #[.long 0, .int 1, .null, .int 0, .null, .int 0, .int 0], vm := .statics 7 },
  { cls := 12, slots := #[.null, .null, .null], vm := .statics 12 }]
def classes : Array Class := #[k0, k1, k2, k3, k4, k5, k6, k7, k8, k9, k10, k11, k12, k13, k14, k15, k16, k17, k18, k19, k20, k21, k22, k23]
def interned : List (Array UInt16 × Addr) := []
def slotsUsed : Nat := 10
def theMethod : MethodId := ⟨1, 3⟩
def args0 : Array Value := #[.long 5, .long 9, .int 5, .int 1]
def aboutOver (below : List Frame) : State where
  vm := { classes := classes, interned := interned.toArray }
  heap := heap
  slotsUsed := slotsUsed
  threads := #[{ frames := .invoking theMethod args0 :: below }]
def below0 : List Frame := [.native { method := ⟨0, 0⟩, args := #[] }]
def about1 : State := aboutOver below0
def p0 : Program := .bare "" "" ""
def e0 : Env := launch0.env 0 0 0
theorem w_frames : about1.frames = Frame.invoking theMethod args0 :: below0 := rfl
set_option maxRecDepth 65536 in
theorem w_args : argsFit about1.vm theMethod args0 = true := by decide +kernel
set_option maxRecDepth 65536 in
theorem w_heap : heapFits about1 = true := by decide +kernel
set_option maxRecDepth 65536 in
theorem w_runnable : about1.curStatus? = some .runnable := by decide +kernel
set_option maxRecDepth 65536 in
theorem w_alone : about1.alone = true := by decide +kernel
set_option maxRecDepth 65536 in
theorem w_named : about1.methodNamed? x = some theMethod := by decide +kernel
set_option maxRecDepth 65536 in
theorem w_hears : about1.hears theMethod below0 = true := by decide +kernel
set_option maxRecDepth 65536 in
theorem w_ripe : about1.ripe theMethod args0 below0 = true := by decide +kernel
theorem w_running : about1.status = .running := rfl
set_option maxRecDepth 65536 in
theorem w_room : about1.hasRoom e0.platform room_1 = true :=
  launch0.hasRoom_least _ room_1 (by decide +kernel) (by decide +kernel) (by decide +kernel) (by decide +kernel) (by decide +kernel) (by decide +kernel)
theorem allAtoms_all (ts : List Jvm.Cond) (a : Array Jvm.Value) (st : Jvm.State) : (allAtoms ts).before a st = ts.all (fun c => c.before a st) := by
  induction ts with
  | nil => rfl
  | cons c t ih =>
    show (Jvm.Cond.and c (allAtoms t)).before a st = _
    rw [Jvm.Cond.before_and, ih, List.all_cons]
def words1 : List Jvm.Cond := Jvm.Cond.code x code maxLocals ret :: tables_1
/-- a 'code' word, met by the world's own term for the bytes: nothing is compared byte by byte -/
theorem code_word {y : MethodName} {bytes : ByteArray} {mx : Nat} {rt : Option FieldType} {a : Array Value} {s : State} {m : MethodId} {meth : Method} {c : Code} (h1 : s.methodNamed? y = some m) (h2 : s.vm.method? m = some meth) (h3 : meth.code = some c) (h4 : c.code = bytes)
    (h5 : (c.maxLocals == mx && c.exceptionTable.isEmpty && decide (c.maxStack ≤ mostOperands) && decide (meth.sig.returnType = rt) && !meth.locks && decide (parseMethodDescriptor y.desc = some meth.sig)) = true) : (Jvm.Cond.code y bytes mx rt).before a s = true := by
  simp only [Bool.and_eq_true, beq_iff_eq, Bool.not_eq_true', decide_eq_true_eq] at h5
  obtain ⟨⟨⟨⟨⟨g1, g2⟩, g3⟩, g4⟩, g5⟩, g6⟩ := h5
  simp [Cond.before, Cond.holds, Cond.value, h1, h2, h3, h4, g1, g2, g3, g4, g5, g6]
def isCode : Jvm.Cond → Bool
  | .code _ _ _ _ => true
  | _ => false
theorem all_split {L : List Jvm.Cond} {P : Jvm.Cond → Bool} (h1 : L.all (fun c => isCode c || P c) = true) (h2 : ∀ c ∈ L.filter isCode, P c = true) : L.all P = true := by
  refine List.all_eq_true.mpr fun c hc => ?_
  have h := List.all_eq_true.mp h1 c hc
  rcases Bool.eq_false_or_eq_true (isCode c) with hi | hi
  · exact h2 c (List.mem_filter.mpr ⟨hc, hi⟩)
  · simpa [hi] using h
set_option maxRecDepth 65536 in
theorem w_c0 : (Jvm.Cond.code x code maxLocals ret).before args0 about1 = true := code_word (m := ⟨1, 3⟩) (meth := k1m3) (c := k1c3) (by decide +kernel) rfl rfl rfl (by decide +kernel)
set_option maxRecDepth 65536 in
theorem w_c1 : (Jvm.Cond.code ({ cls := "com/example/rulr/rulr/policy/MembershipConditionPinLaw", name := "ch", desc := "(JI)C" } : Jvm.MethodName) method_2_code (3 : Nat) (Option.some Jvm.ClassFile.FieldType.char)).before args0 about1 = true := code_word (m := ⟨1, 1⟩) (meth := k1m1) (c := k1c1) (by decide +kernel) rfl rfl rfl (by decide +kernel)
set_option maxRecDepth 65536 in
theorem w_c2 : (Jvm.Cond.code ({ cls := "java/lang/String", name := "<init>", desc := "([C)V" } : Jvm.MethodName) jdk_42_method_3_code (2 : Nat) (Option.none : Option Jvm.ClassFile.FieldType)).before args0 about1 = true := code_word (m := ⟨7, 1⟩) (meth := k7m1) (c := k7c1) (by decide +kernel) rfl rfl rfl (by decide +kernel)
set_option maxRecDepth 65536 in
theorem w_c3 : (Jvm.Cond.code ({ cls := "java/lang/String", name := "<init>", desc := "([CIILjava/lang/Void;)V" } : Jvm.MethodName) jdk_42_method_149_code (6 : Nat) (Option.none : Option Jvm.ClassFile.FieldType)).before args0 about1 = true := code_word (m := ⟨7, 7⟩) (meth := k7m7) (c := k7c7) (by decide +kernel) rfl rfl rfl (by decide +kernel)
set_option maxRecDepth 65536 in
theorem w_c4 : (Jvm.Cond.code ({ cls := "java/lang/Object", name := "<init>", desc := "()V" } : Jvm.MethodName) object_method_1_code (1 : Nat) (Option.none : Option Jvm.ClassFile.FieldType)).before args0 about1 = true := code_word (m := ⟨0, 0⟩) (meth := k0m0) (c := k0c0) (by decide +kernel) rfl rfl rfl (by decide +kernel)
set_option maxRecDepth 65536 in
theorem w_c5 : (Jvm.Cond.code ({ cls := "java/lang/StringUTF16", name := "compress", desc := "([CII)[B" } : Jvm.MethodName) jdk_52_method_16_code (6 : Nat) (Option.some (Jvm.ClassFile.FieldType.array Jvm.ClassFile.FieldType.byte))).before args0 about1 = true := code_word (m := ⟨8, 2⟩) (meth := k8m2) (c := k8c2) (by decide +kernel) rfl rfl rfl (by decide +kernel)
set_option maxRecDepth 65536 in
theorem w_c6 : (Jvm.Cond.code ({ cls := "java/lang/StringUTF16", name := "compress", desc := "([CI[BII)I" } : Jvm.MethodName) jdk_52_method_21_code (7 : Nat) (Option.some Jvm.ClassFile.FieldType.int)).before args0 about1 = true := code_word (m := ⟨8, 3⟩) (meth := k8m3) (c := k8c3) (by decide +kernel) rfl rfl rfl (by decide +kernel)
set_option maxRecDepth 65536 in
theorem w_c7 : (Jvm.Cond.code ({ cls := "java/lang/StringUTF16", name := "coderFromArrayLen", desc := "([BI)B" } : Jvm.MethodName) jdk_52_method_15_code (2 : Nat) (Option.some Jvm.ClassFile.FieldType.byte)).before args0 about1 = true := code_word (m := ⟨8, 1⟩) (meth := k8m1) (c := k8c1) (by decide +kernel) rfl rfl rfl (by decide +kernel)
set_option maxRecDepth 65536 in
theorem w_c8 : (Jvm.Cond.code ({ cls := "java/lang/String", name := "valueOf", desc := "(C)Ljava/lang/String;" } : Jvm.MethodName) jdk_42_method_139_code (1 : Nat) (Option.some (Jvm.ClassFile.FieldType.object "java/lang/String"))).before args0 about1 = true := code_word (m := ⟨7, 6⟩) (meth := k7m6) (c := k7c6) (by decide +kernel) rfl rfl rfl (by decide +kernel)
set_option maxRecDepth 65536 in
theorem w_c9 : (Jvm.Cond.code ({ cls := "java/lang/StringLatin1", name := "canEncode", desc := "(C)Z" } : Jvm.MethodName) jdk_43_method_3_code (1 : Nat) (Option.some Jvm.ClassFile.FieldType.boolean)).before args0 about1 = true := code_word (m := ⟨11, 2⟩) (meth := k11m2) (c := k11c2) (by decide +kernel) rfl rfl rfl (by decide +kernel)
set_option maxRecDepth 65536 in
theorem w_c10 : (Jvm.Cond.code ({ cls := "java/lang/StringLatin1", name := "toBytes", desc := "(C)[B" } : Jvm.MethodName) jdk_43_method_46_code (1 : Nat) (Option.some (Jvm.ClassFile.FieldType.array Jvm.ClassFile.FieldType.byte))).before args0 about1 = true := code_word (m := ⟨11, 3⟩) (meth := k11m3) (c := k11c3) (by decide +kernel) rfl rfl rfl (by decide +kernel)
set_option maxRecDepth 65536 in
theorem w_c11 : (Jvm.Cond.code ({ cls := "java/lang/String", name := "<init>", desc := "([BB)V" } : Jvm.MethodName) jdk_42_method_151_code (3 : Nat) (Option.none : Option Jvm.ClassFile.FieldType)).before args0 about1 = true := code_word (m := ⟨7, 8⟩) (meth := k7m8) (c := k7c8) (by decide +kernel) rfl rfl rfl (by decide +kernel)
set_option maxRecDepth 65536 in
theorem w_c12 : (Jvm.Cond.code ({ cls := "com/example/rulr/rulr/policy/SqlCondition$Membership", name := "<init>", desc := "(Ljava/lang/String;Ljava/lang/String;Lcom/example/rulr/rulr/policy/SqlCondition$Span;IZI)V" } : Jvm.MethodName) prog_56_method_1_code (7 : Nat) (Option.none : Option Jvm.ClassFile.FieldType)).before args0 about1 = true := code_word (m := ⟨10, 0⟩) (meth := k10m0) (c := k10c0) (by decide +kernel) rfl rfl rfl (by decide +kernel)
set_option maxRecDepth 65536 in
theorem w_c13 : (Jvm.Cond.code ({ cls := "java/lang/Record", name := "<init>", desc := "()V" } : Jvm.MethodName) jdk_30_method_1_code (1 : Nat) (Option.none : Option Jvm.ClassFile.FieldType)).before args0 about1 = true := code_word (m := ⟨9, 0⟩) (meth := k9m0) (c := k9c0) (by decide +kernel) rfl rfl rfl (by decide +kernel)
set_option maxRecDepth 65536 in
theorem w_c14 : (Jvm.Cond.code ({ cls := "com/example/rulr/rulr/policy/SqlCondition$Membership", name := "condition", desc := "()Ljava/lang/String;" } : Jvm.MethodName) prog_56_method_5_code (1 : Nat) (Option.some (Jvm.ClassFile.FieldType.object "java/lang/String"))).before args0 about1 = true := code_word (m := ⟨10, 1⟩) (meth := k10m1) (c := k10c1) (by decide +kernel) rfl rfl rfl (by decide +kernel)
set_option maxRecDepth 65536 in
theorem w_c15 : (Jvm.Cond.code ({ cls := "java/lang/String", name := "length", desc := "()I" } : Jvm.MethodName) jdk_42_method_54_code (1 : Nat) (Option.some Jvm.ClassFile.FieldType.int)).before args0 about1 = true := code_word (m := ⟨7, 2⟩) (meth := k7m2) (c := k7c2) (by decide +kernel) rfl rfl rfl (by decide +kernel)
set_option maxRecDepth 65536 in
theorem w_c16 : (Jvm.Cond.code ({ cls := "java/lang/String", name := "coder", desc := "()B" } : Jvm.MethodName) jdk_42_method_152_code (1 : Nat) (Option.some Jvm.ClassFile.FieldType.byte)).before args0 about1 = true := code_word (m := ⟨7, 9⟩) (meth := k7m9) (c := k7c9) (by decide +kernel) rfl rfl rfl (by decide +kernel)
set_option maxRecDepth 65536 in
theorem w_c17 : (Jvm.Cond.code ({ cls := "java/lang/String", name := "substring", desc := "(I)Ljava/lang/String;" } : Jvm.MethodName) jdk_42_method_91_code (2 : Nat) (Option.some (Jvm.ClassFile.FieldType.object "java/lang/String"))).before args0 about1 = true := code_word (m := ⟨7, 4⟩) (meth := k7m4) (c := k7c4) (by decide +kernel) rfl rfl rfl (by decide +kernel)
set_option maxRecDepth 65536 in
theorem w_c18 : (Jvm.Cond.code ({ cls := "java/lang/String", name := "substring", desc := "(II)Ljava/lang/String;" } : Jvm.MethodName) jdk_42_method_92_code (5 : Nat) (Option.some (Jvm.ClassFile.FieldType.object "java/lang/String"))).before args0 about1 = true := code_word (m := ⟨7, 5⟩) (meth := k7m5) (c := k7c5) (by decide +kernel) rfl rfl rfl (by decide +kernel)
set_option maxRecDepth 65536 in
theorem w_c19 : (Jvm.Cond.code ({ cls := "java/lang/String", name := "checkBoundsBeginEnd", desc := "(III)V" } : Jvm.MethodName) jdk_42_method_158_code (3 : Nat) (Option.none : Option Jvm.ClassFile.FieldType)).before args0 about1 = true := code_word (m := ⟨7, 12⟩) (meth := k7m12) (c := k7c12) (by decide +kernel) rfl rfl rfl (by decide +kernel)
set_option maxRecDepth 65536 in
theorem w_c20 : (Jvm.Cond.code ({ cls := "jdk/internal/util/Preconditions", name := "checkFromToIndex", desc := "(IIILjava/util/function/BiFunction;)I" } : Jvm.MethodName) jdk_41_method_12_code (4 : Nat) (Option.some Jvm.ClassFile.FieldType.int)).before args0 about1 = true := code_word (m := ⟨12, 2⟩) (meth := k12m2) (c := k12c2) (by decide +kernel) rfl rfl rfl (by decide +kernel)
set_option maxRecDepth 65536 in
theorem w_c21 : (Jvm.Cond.code ({ cls := "java/lang/String", name := "isLatin1", desc := "()Z" } : Jvm.MethodName) jdk_42_method_154_code (1 : Nat) (Option.some Jvm.ClassFile.FieldType.boolean)).before args0 about1 = true := code_word (m := ⟨7, 10⟩) (meth := k7m10) (c := k7c10) (by decide +kernel) rfl rfl rfl (by decide +kernel)
set_option maxRecDepth 65536 in
theorem w_c22 : (Jvm.Cond.code ({ cls := "java/lang/StringLatin1", name := "newString", desc := "([BII)Ljava/lang/String;" } : Jvm.MethodName) jdk_43_method_47_code (3 : Nat) (Option.some (Jvm.ClassFile.FieldType.object "java/lang/String"))).before args0 about1 = true := code_word (m := ⟨11, 4⟩) (meth := k11m4) (c := k11c4) (by decide +kernel) rfl rfl rfl (by decide +kernel)
set_option maxRecDepth 65536 in
theorem w_c23 : (Jvm.Cond.code ({ cls := "java/util/Arrays", name := "copyOfRange", desc := "([BII)[B" } : Jvm.MethodName) jdk_65_method_132_code (3 : Nat) (Option.some (Jvm.ClassFile.FieldType.array Jvm.ClassFile.FieldType.byte))).before args0 about1 = true := code_word (m := ⟨13, 2⟩) (meth := k13m2) (c := k13c2) (by decide +kernel) rfl rfl rfl (by decide +kernel)
set_option maxRecDepth 65536 in
theorem w_c24 : (Jvm.Cond.code ({ cls := "java/util/Arrays", name := "copyOfRangeByte", desc := "([BII)[B" } : Jvm.MethodName) jdk_65_method_133_code (5 : Nat) (Option.some (Jvm.ClassFile.FieldType.array Jvm.ClassFile.FieldType.byte))).before args0 about1 = true := code_word (m := ⟨13, 3⟩) (meth := k13m3) (c := k13c3) (by decide +kernel) rfl rfl rfl (by decide +kernel)
set_option maxRecDepth 65536 in
theorem w_c25 : (Jvm.Cond.code ({ cls := "java/util/Arrays", name := "checkLength", desc := "(II)V" } : Jvm.MethodName) jdk_65_method_131_code (2 : Nat) (Option.none : Option Jvm.ClassFile.FieldType)).before args0 about1 = true := code_word (m := ⟨13, 1⟩) (meth := k13m1) (c := k13c1) (by decide +kernel) rfl rfl rfl (by decide +kernel)
set_option maxRecDepth 65536 in
theorem w_c26 : (Jvm.Cond.code ({ cls := "java/lang/Math", name := "min", desc := "(II)I" } : Jvm.MethodName) jdk_29_method_69_code (2 : Nat) (Option.some Jvm.ClassFile.FieldType.int)).before args0 about1 = true := code_word (m := ⟨14, 1⟩) (meth := k14m1) (c := k14c1) (by decide +kernel) rfl rfl rfl (by decide +kernel)
set_option maxRecDepth 65536 in
theorem w_c27 : (Jvm.Cond.code ({ cls := "com/example/rulr/rulr/policy/MembershipConditionPinLaw", name := "at", desc := "(Ljava/lang/String;[CII)Z" } : Jvm.MethodName) method_3_code (4 : Nat) (Option.some Jvm.ClassFile.FieldType.boolean)).before args0 about1 = true := code_word (m := ⟨1, 2⟩) (meth := k1m2) (c := k1c2) (by decide +kernel) rfl rfl rfl (by decide +kernel)
set_option maxRecDepth 65536 in
theorem w_c28 : (Jvm.Cond.code ({ cls := "java/lang/String", name := "charAt", desc := "(I)C" } : Jvm.MethodName) jdk_42_method_56_code (2 : Nat) (Option.some Jvm.ClassFile.FieldType.char)).before args0 about1 = true := code_word (m := ⟨7, 3⟩) (meth := k7m3) (c := k7c3) (by decide +kernel) rfl rfl rfl (by decide +kernel)
set_option maxRecDepth 65536 in
theorem w_c29 : (Jvm.Cond.code ({ cls := "java/lang/StringLatin1", name := "charAt", desc := "([BI)C" } : Jvm.MethodName) jdk_43_method_2_code (2 : Nat) (Option.some Jvm.ClassFile.FieldType.char)).before args0 about1 = true := code_word (m := ⟨11, 1⟩) (meth := k11m1) (c := k11c1) (by decide +kernel) rfl rfl rfl (by decide +kernel)
set_option maxRecDepth 65536 in
theorem w_c30 : (Jvm.Cond.code ({ cls := "java/lang/String", name := "checkIndex", desc := "(II)V" } : Jvm.MethodName) jdk_42_method_155_code (2 : Nat) (Option.none : Option Jvm.ClassFile.FieldType)).before args0 about1 = true := code_word (m := ⟨7, 11⟩) (meth := k7m11) (c := k7c11) (by decide +kernel) rfl rfl rfl (by decide +kernel)
set_option maxRecDepth 65536 in
theorem w_c31 : (Jvm.Cond.code ({ cls := "jdk/internal/util/Preconditions", name := "checkIndex", desc := "(IILjava/util/function/BiFunction;)I" } : Jvm.MethodName) jdk_41_method_11_code (3 : Nat) (Option.some Jvm.ClassFile.FieldType.int)).before args0 about1 = true := code_word (m := ⟨12, 1⟩) (meth := k12m1) (c := k12c1) (by decide +kernel) rfl rfl rfl (by decide +kernel)
def codes1 : List Jvm.Cond := [Jvm.Cond.code x code maxLocals ret, Jvm.Cond.code ({ cls := "com/example/rulr/rulr/policy/MembershipConditionPinLaw", name := "ch", desc := "(JI)C" } : Jvm.MethodName) method_2_code (3 : Nat) (Option.some Jvm.ClassFile.FieldType.char), Jvm.Cond.code ({ cls := "java/lang/String", name := "<init>", desc := "([C)V" } : Jvm.MethodName) jdk_42_method_3_code (2 : Nat) (Option.none : Option Jvm.ClassFile.FieldType), Jvm.Cond.code ({ cls := "java/lang/String", name := "<init>", desc := "([CIILjava/lang/Void;)V" } : Jvm.MethodName) jdk_42_method_149_code (6 : Nat) (Option.none : Option Jvm.ClassFile.FieldType), Jvm.Cond.code ({ cls := "java/lang/Object", name := "<init>", desc := "()V" } : Jvm.MethodName) object_method_1_code (1 : Nat) (Option.none : Option Jvm.ClassFile.FieldType), Jvm.Cond.code ({ cls := "java/lang/StringUTF16", name := "compress", desc := "([CII)[B" } : Jvm.MethodName) jdk_52_method_16_code (6 : Nat) (Option.some (Jvm.ClassFile.FieldType.array Jvm.ClassFile.FieldType.byte)), Jvm.Cond.code ({ cls := "java/lang/StringUTF16", name := "compress", desc := "([CI[BII)I" } : Jvm.MethodName) jdk_52_method_21_code (7 : Nat) (Option.some Jvm.ClassFile.FieldType.int), Jvm.Cond.code ({ cls := "java/lang/StringUTF16", name := "coderFromArrayLen", desc := "([BI)B" } : Jvm.MethodName) jdk_52_method_15_code (2 : Nat) (Option.some Jvm.ClassFile.FieldType.byte), Jvm.Cond.code ({ cls := "java/lang/String", name := "valueOf", desc := "(C)Ljava/lang/String;" } : Jvm.MethodName) jdk_42_method_139_code (1 : Nat) (Option.some (Jvm.ClassFile.FieldType.object "java/lang/String")), Jvm.Cond.code ({ cls := "java/lang/StringLatin1", name := "canEncode", desc := "(C)Z" } : Jvm.MethodName) jdk_43_method_3_code (1 : Nat) (Option.some Jvm.ClassFile.FieldType.boolean), Jvm.Cond.code ({ cls := "java/lang/StringLatin1", name := "toBytes", desc := "(C)[B" } : Jvm.MethodName) jdk_43_method_46_code (1 : Nat) (Option.some (Jvm.ClassFile.FieldType.array Jvm.ClassFile.FieldType.byte)), Jvm.Cond.code ({ cls := "java/lang/String", name := "<init>", desc := "([BB)V" } : Jvm.MethodName) jdk_42_method_151_code (3 : Nat) (Option.none : Option Jvm.ClassFile.FieldType), Jvm.Cond.code ({ cls := "com/example/rulr/rulr/policy/SqlCondition$Membership", name := "<init>", desc := "(Ljava/lang/String;Ljava/lang/String;Lcom/example/rulr/rulr/policy/SqlCondition$Span;IZI)V" } : Jvm.MethodName) prog_56_method_1_code (7 : Nat) (Option.none : Option Jvm.ClassFile.FieldType), Jvm.Cond.code ({ cls := "java/lang/Record", name := "<init>", desc := "()V" } : Jvm.MethodName) jdk_30_method_1_code (1 : Nat) (Option.none : Option Jvm.ClassFile.FieldType), Jvm.Cond.code ({ cls := "com/example/rulr/rulr/policy/SqlCondition$Membership", name := "condition", desc := "()Ljava/lang/String;" } : Jvm.MethodName) prog_56_method_5_code (1 : Nat) (Option.some (Jvm.ClassFile.FieldType.object "java/lang/String")), Jvm.Cond.code ({ cls := "java/lang/String", name := "length", desc := "()I" } : Jvm.MethodName) jdk_42_method_54_code (1 : Nat) (Option.some Jvm.ClassFile.FieldType.int), Jvm.Cond.code ({ cls := "java/lang/String", name := "coder", desc := "()B" } : Jvm.MethodName) jdk_42_method_152_code (1 : Nat) (Option.some Jvm.ClassFile.FieldType.byte), Jvm.Cond.code ({ cls := "java/lang/String", name := "substring", desc := "(I)Ljava/lang/String;" } : Jvm.MethodName) jdk_42_method_91_code (2 : Nat) (Option.some (Jvm.ClassFile.FieldType.object "java/lang/String")), Jvm.Cond.code ({ cls := "java/lang/String", name := "substring", desc := "(II)Ljava/lang/String;" } : Jvm.MethodName) jdk_42_method_92_code (5 : Nat) (Option.some (Jvm.ClassFile.FieldType.object "java/lang/String")), Jvm.Cond.code ({ cls := "java/lang/String", name := "checkBoundsBeginEnd", desc := "(III)V" } : Jvm.MethodName) jdk_42_method_158_code (3 : Nat) (Option.none : Option Jvm.ClassFile.FieldType), Jvm.Cond.code ({ cls := "jdk/internal/util/Preconditions", name := "checkFromToIndex", desc := "(IIILjava/util/function/BiFunction;)I" } : Jvm.MethodName) jdk_41_method_12_code (4 : Nat) (Option.some Jvm.ClassFile.FieldType.int), Jvm.Cond.code ({ cls := "java/lang/String", name := "isLatin1", desc := "()Z" } : Jvm.MethodName) jdk_42_method_154_code (1 : Nat) (Option.some Jvm.ClassFile.FieldType.boolean), Jvm.Cond.code ({ cls := "java/lang/StringLatin1", name := "newString", desc := "([BII)Ljava/lang/String;" } : Jvm.MethodName) jdk_43_method_47_code (3 : Nat) (Option.some (Jvm.ClassFile.FieldType.object "java/lang/String")), Jvm.Cond.code ({ cls := "java/util/Arrays", name := "copyOfRange", desc := "([BII)[B" } : Jvm.MethodName) jdk_65_method_132_code (3 : Nat) (Option.some (Jvm.ClassFile.FieldType.array Jvm.ClassFile.FieldType.byte)), Jvm.Cond.code ({ cls := "java/util/Arrays", name := "copyOfRangeByte", desc := "([BII)[B" } : Jvm.MethodName) jdk_65_method_133_code (5 : Nat) (Option.some (Jvm.ClassFile.FieldType.array Jvm.ClassFile.FieldType.byte)), Jvm.Cond.code ({ cls := "java/util/Arrays", name := "checkLength", desc := "(II)V" } : Jvm.MethodName) jdk_65_method_131_code (2 : Nat) (Option.none : Option Jvm.ClassFile.FieldType), Jvm.Cond.code ({ cls := "java/lang/Math", name := "min", desc := "(II)I" } : Jvm.MethodName) jdk_29_method_69_code (2 : Nat) (Option.some Jvm.ClassFile.FieldType.int), Jvm.Cond.code ({ cls := "com/example/rulr/rulr/policy/MembershipConditionPinLaw", name := "at", desc := "(Ljava/lang/String;[CII)Z" } : Jvm.MethodName) method_3_code (4 : Nat) (Option.some Jvm.ClassFile.FieldType.boolean), Jvm.Cond.code ({ cls := "java/lang/String", name := "charAt", desc := "(I)C" } : Jvm.MethodName) jdk_42_method_56_code (2 : Nat) (Option.some Jvm.ClassFile.FieldType.char), Jvm.Cond.code ({ cls := "java/lang/StringLatin1", name := "charAt", desc := "([BI)C" } : Jvm.MethodName) jdk_43_method_2_code (2 : Nat) (Option.some Jvm.ClassFile.FieldType.char), Jvm.Cond.code ({ cls := "java/lang/String", name := "checkIndex", desc := "(II)V" } : Jvm.MethodName) jdk_42_method_155_code (2 : Nat) (Option.none : Option Jvm.ClassFile.FieldType), Jvm.Cond.code ({ cls := "jdk/internal/util/Preconditions", name := "checkIndex", desc := "(IILjava/util/function/BiFunction;)I" } : Jvm.MethodName) jdk_41_method_11_code (3 : Nat) (Option.some Jvm.ClassFile.FieldType.int)]
set_option maxRecDepth 65536 in
theorem codes_eq : words1.filter isCode = codes1 := rfl
theorem w_codes : ∀ c ∈ words1.filter isCode, c.before args0 about1 = true := by
  rw [codes_eq]
  intro c hc
  simp only [codes1, List.mem_cons, List.not_mem_nil, or_false] at hc
  rcases hc with rfl | rfl | rfl | rfl | rfl | rfl | rfl | rfl | rfl | rfl | rfl | rfl | rfl | rfl | rfl | rfl | rfl | rfl | rfl | rfl | rfl | rfl | rfl | rfl | rfl | rfl | rfl | rfl | rfl | rfl | rfl | rfl
  · exact w_c0
  · exact w_c1
  · exact w_c2
  · exact w_c3
  · exact w_c4
  · exact w_c5
  · exact w_c6
  · exact w_c7
  · exact w_c8
  · exact w_c9
  · exact w_c10
  · exact w_c11
  · exact w_c12
  · exact w_c13
  · exact w_c14
  · exact w_c15
  · exact w_c16
  · exact w_c17
  · exact w_c18
  · exact w_c19
  · exact w_c20
  · exact w_c21
  · exact w_c22
  · exact w_c23
  · exact w_c24
  · exact w_c25
  · exact w_c26
  · exact w_c27
  · exact w_c28
  · exact w_c29
  · exact w_c30
  · exact w_c31
set_option maxRecDepth 65536 in
theorem w_t1 : (words1.take 24).all (fun c => isCode c || c.before args0 about1) = true := by decide +kernel
set_option maxRecDepth 65536 in
theorem w_t2 : ((words1.drop 24).take 24).all (fun c => isCode c || c.before args0 about1) = true := by decide +kernel
set_option maxRecDepth 65536 in
theorem w_t3 : (((words1.drop 24).drop 24).take 24).all (fun c => isCode c || c.before args0 about1) = true := by decide +kernel
set_option maxRecDepth 65536 in
theorem w_t4 : ((((words1.drop 24).drop 24).drop 24).take 24).all (fun c => isCode c || c.before args0 about1) = true := by decide +kernel
set_option maxRecDepth 65536 in
theorem w_t5 : (((((words1.drop 24).drop 24).drop 24).drop 24).take 24).all (fun c => isCode c || c.before args0 about1) = true := by decide +kernel
set_option maxRecDepth 65536 in
theorem w_t6 : ((((((words1.drop 24).drop 24).drop 24).drop 24).drop 24).take 24).all (fun c => isCode c || c.before args0 about1) = true := by decide +kernel
set_option maxRecDepth 65536 in
theorem w_t7 : ((((((words1.drop 24).drop 24).drop 24).drop 24).drop 24).drop 24).all (fun c => isCode c || c.before args0 about1) = true := by decide +kernel
theorem w_tables : (allAtoms (Jvm.Cond.code x code maxLocals ret :: tables_1)).before args0 about1 = true := by
  rw [allAtoms_all]
  show words1.all (fun c => c.before args0 about1) = true
  refine all_split ?_ w_codes
  rw [← List.take_append_drop 24 words1, List.all_append, w_t1, ← List.take_append_drop 24 (words1.drop 24), List.all_append, w_t2, ← List.take_append_drop 24 ((words1.drop 24).drop 24), List.all_append, w_t3, ← List.take_append_drop 24 (((words1.drop 24).drop 24).drop 24), List.all_append, w_t4, ← List.take_append_drop 24 ((((words1.drop 24).drop 24).drop 24).drop 24), List.all_append, w_t5, ← List.take_append_drop 24 (((((words1.drop 24).drop 24).drop 24).drop 24).drop 24), List.all_append, w_t6, w_t7]
  rfl
set_option maxRecDepth 65536 in
theorem w_rest : rest_1_c.before args0 about1 = true := by decide +kernel
set_option maxRecDepth 65536 in
theorem w_case : (Jvm.Cond.and given_1 narrow_1).before args0 about1 = true := by decide +kernel
set_option maxRecDepth 65536 in
theorem w_consts : constsHeld consts_1 about1 := Jvm.Lit.constsHeldB_iff.mp (by decide +kernel)
theorem w_applies : (headSpec (Jvm.Cond.code x code maxLocals ret :: tables_1) room_1).applies x e0.platform about1 = true :=
  (Spec.applies_iff w_frames).mpr ⟨w_running, w_runnable, w_alone, w_named, w_hears, w_ripe, w_room, w_tables⟩
theorem atStart : AtStart classFile x code maxLocals ret World_1 tables_1 room_1 Calls_1 rest_1 Pre_1 launch0 p0 e0 about1 theMethod args0 below0 :=
  ⟨lists_1, trivial, launch0.admits_env _ _ _, launch0.least_env, fairChoices_fair.cas, fairChoices_fair.clock, w_frames, w_args, w_heap, w_applies, ⟨w_consts, trivial⟩, w_rest, w_case⟩
end start1
theorem witness_1 : WitnessClaimed_1 := ⟨start1.p0, start1.e0, start1.about1, start1.theMethod, start1.args0, start1.below0, start1.atStart⟩
end Jvm.Pilot.@@N@@
