import JvmDerived
import JvmDerived.Pilot.@@N@@Statement
import JvmDerived.Pilot.@@N@@Code
set_option linter.unusedVariables false
set_option linter.unusedSimpArgs false
@@BLOCK:NumsL.lean.txt@@
/- laws to paste: Road.backV, Road.eqW, Road.codOf, Road.lenW, Road.chN, Road.empW (cut by pick.py; bodies as the Statement names them) -/
namespace Jvm.Pilot.@@N@@
namespace StrChars
open Jvm Sem ClassFile Op Lib Jvm.Stand Jvm.Free.XT Jvm.Free.ALB Jvm.Free.JM Jvm.Free
open Jvm.Lib.Cold (StaticIs)
/-- a char array whose places are chars -/
def Ch (a : Addr) (A : Cell) (U : State) : Prop := Arr .char a A U ∧ Typed .char A
theorem Ch.mv {a : Addr} {A : Cell} {U U' : State} (h : Ch a A U) (hal : U.vm.Alike U'.vm) (hh : U'.heap = U.heap) : Ch a A U' := ⟨h.1.mv hal hh, h.2⟩
theorem Ch.keep {a : Addr} {A : Cell} {U U' : State} (h : Ch a A U) (hal : U.vm.Alike U'.vm) (hk : U'.heap[a]? = some A) : Ch a A U' := ⟨h.1.keep hal hk, h.2⟩
/-- what place i of a char[]'s cell holds -/
def cv (A : Cell) (i : Nat) : Int32 := match A.slots[i]? with | some (.int x) => x | _ => 0
theorem Ch.get {a : Addr} {A : Cell} {U : State} (h : Ch a A U) {i : Nat} (hi : i < A.slots.size) : A.slots[i]? = some (.int (cv A i)) := by
  have e := Array.getElem?_eq_getElem hi
  have f := h.2 i _ e
  unfold cv; rw [e]
  generalize A.slots[i] = v at f
  cases v <;> simp [fits] at f ⊢
/-- the byte that i2b leaves of a char -/
def lo8 (x : Int32) : Int32 := x.toInt8.toInt32
theorem fits_lo8 (y : Int32) : fits .byte (.int (lo8 y)) = true := by
  have h1 := y.toInt8.le_toInt
  have h2 := y.toInt8.toInt_lt
  simp only [lo8, fits, Bool.and_eq_true, decide_eq_true_eq, Int32.le_iff_toInt_le, Int8.toInt_toInt32, show (-128 : Int32).toInt = -128 from by decide, show (127 : Int32).toInt = 127 from by decide]
  omega
/-- A' is A but that each place j of lo .. hi - 1 holds f j -/
def Laid (A A' : Cell) (lo hi : Nat) (f : Nat → Value) : Prop := A'.cls = A.cls ∧ A'.vm = A.vm ∧ A'.slots.size = A.slots.size ∧ ∀ i, A'.slots[i]? = if lo ≤ i ∧ i < hi then some (f i) else A.slots[i]?
theorem Laid.zero (A : Cell) (lo : Nat) (f : Nat → Value) : Laid A A lo (lo + 0) f := ⟨rfl, rfl, rfl, fun i => by rw [if_neg (by omega)]⟩
theorem Laid.step {A Ak : Cell} {lo k : Nat} {f : Nat → Value} {v : Value} (h : Laid A Ak lo k f) (hlo : lo ≤ k) (hk : k < Ak.slots.size) (hv : v = f k) : Laid A (Ak.setSlot k v) lo (k + 1) f := by
  refine ⟨h.1, h.2.1, by simpa [Cell.setSlot] using h.2.2.1, fun i => ?_⟩
  by_cases e : k = i
  · subst e; rw [Cell.slots_setSlot_self v hk, if_pos (by omega), hv]
  · rw [Cell.slots_setSlot_ne v e, h.2.2.2 i]
    by_cases q : lo ≤ i ∧ i < k
    · rw [if_pos q, if_pos (by omega)]
    · rw [if_neg q, if_neg (by omega)]
def U16 : String := "java/lang/StringUTF16"
namespace Cmp5
def yN : MethodName := ⟨"java/lang/StringUTF16", "compress", "([CI[BII)I"⟩
abbrev yB : ByteArray := jdk_52_method_21_code
theorem d0 : decode yB 0 = .ok (.iconst 0, 1) := by decide +kernel
theorem d1 : decode yB 1 = .ok (.istore 5, 2) := by decide +kernel
theorem d3 : decode yB 3 = .ok (.iload 5, 2) := by decide +kernel
theorem d5 : decode yB 5 = .ok (.iload 4, 2) := by decide +kernel
theorem d7 : decode yB 7 = .ok (.if_icmp (.ge) 37, 3) := by decide +kernel
theorem d10 : decode yB 10 = .ok (.aload_n 0, 1) := by decide +kernel
theorem d11 : decode yB 11 = .ok (.iload_n 1, 1) := by decide +kernel
theorem d12 : decode yB 12 = .ok (.caload, 1) := by decide +kernel
theorem d13 : decode yB 13 = .ok (.istore 6, 2) := by decide +kernel
theorem d15 : decode yB 15 = .ok (.iload 6, 2) := by decide +kernel
theorem d17 : decode yB 17 = .ok (.sipush 255, 3) := by decide +kernel
theorem d20 : decode yB 20 = .ok (.if_icmp (.le) 6, 3) := by decide +kernel
theorem d26 : decode yB 26 = .ok (.aload_n 2, 1) := by decide +kernel
theorem d27 : decode yB 27 = .ok (.iload_n 3, 1) := by decide +kernel
theorem d28 : decode yB 28 = .ok (.iload 6, 2) := by decide +kernel
theorem d30 : decode yB 30 = .ok (.i2b, 1) := by decide +kernel
theorem d31 : decode yB 31 = .ok (.bastore, 1) := by decide +kernel
theorem d32 : decode yB 32 = .ok (.iinc 1 1, 3) := by decide +kernel
theorem d35 : decode yB 35 = .ok (.iinc 3 1, 3) := by decide +kernel
theorem d38 : decode yB 38 = .ok (.iinc 5 1, 3) := by decide +kernel
theorem d41 : decode yB 41 = .ok (.goto (-38), 3) := by decide +kernel
theorem d44 : decode yB 44 = .ok (.iload 4, 2) := by decide +kernel
theorem d46 : decode yB 46 = .ok (.ireturn, 1) := by decide +kernel
def site : List Cond := []
def tab : Cond := tabOf yN yB 7 (some .int) site
def P (b : Addr) (A : Cell) (d : Addr) (B : Cell) (o q len : Nat) (args : Array Value) (s : State) : Prop := args = #[.ref b, .int (Int32.ofNat o), .ref d, .int (Int32.ofNat q), .int (Int32.ofNat len)] ∧ Ch b A s ∧ Arr .byte d B s ∧ b ≠ d ∧ o + len ≤ A.slots.size ∧ q + len ≤ B.slots.size ∧ ∀ i, i < len → ¬ 255 < cv A (o + i)
def E (b : Addr) (A : Cell) (d : Addr) (B : Cell) (o q len : Nat) (r : Option Value) (s u : State) : Prop := r = some (.int (Int32.ofNat len)) ∧ ∃ B', Put d B' s u ∧ Laid B B' q (q + len) (fun j => Value.int (lo8 (cv A (o + (j - q)))))
/-- no char of the range above 255: len; the places written hold each char's low byte -/
theorem law (l : Launch) (b : Addr) (A : Cell) (d : Addr) (B : Cell) (o q len : Nat) : Law l yN 5 5 0 0 yB 7 (some .int) site (P b A d B o q len) (E b A d B o q len) (copyLocs d q len) 0 0 := by
  refine Law.of_walk (plainFor_of_name (by decide +kernel)) (by decide +kernel) (by decide +kernel) (by decide) (fun _ _ h => by rw [h.1]; rfl) (fun _ U U' hal hh h => ⟨h.1, h.2.1.mv hal hh, h.2.2.1.mv hal hh, h.2.2.2⟩) (fun r U U' V V' h1 hal h2 h => ⟨h.1, h.2.elim fun B' q => ⟨B', q.1.mv h1 h2, q.2⟩⟩) ?_
  intro p e s m args below meth c s₁ X0 hexec hbytes hml hret hlk hnm hown hh0 W hP
  obtain ⟨rfl, hA, hB, hne, l1, l2, hp⟩ := hP
  have c1 : Steps p.tables e below (s₁.setTop (entryFrame m #[.ref b, .int (Int32.ofNat o), .ref d, .int (Int32.ofNat q), .int (Int32.ofNat len)] 7)) (s₁.setTop (mkF m 0 #[.val (.ref b), .val (.int (Int32.ofNat o)), .val (.ref d), .val (.int (Int32.ofNat q)), .val (.int (Int32.ofNat len)), .unset, .unset] [])) := entry rfl
  have hA0 := hA.1.mv X0.warmed.alike hh0
  have hB0 := hB.mv X0.warmed.alike hh0
  have a31 := hA.1.2.2.2
  have c2 : Steps p.tables e below (s₁.setTop (entryFrame m #[.ref b, .int (Int32.ofNat o), .ref d, .int (Int32.ofNat q), .int (Int32.ofNat len)] 7)) (s₁.setTop (mkF m 3 #[.val (.ref b), .val (.int (Int32.ofNat o)), .val (.ref d), .val (.int (Int32.ofNat q)), .val (.int (Int32.ofNat len)), .val (.int 0), .unset] [])) := c1.trans (by
    refine iconstV X0.here hexec rfl 0 (hb hbytes d0) (by decide) ?_
    refine XS.istore X0.here hexec rfl (hb hbytes d1) rfl rfl ?_
    exact Steps.refl _)
  have loop : ∀ (r i : Nat), i + r = len → ∀ (z : Slot), (z = .unset ∨ ∃ w, z = .val w ∧ w.category = 1) → ∀ (Tl : State) (Bk : Cell), Stand p l e { frames := 0, locals := 0, cells := 0, slots := 0 } s m #[.ref b, .int (Int32.ofNat o), .ref d, .int (Int32.ofNat q), .int (Int32.ofNat len)] below meth c Tl ([] ++ copyLocs d q i) 0 0 → Put d Bk s₁ Tl → Laid B Bk q (q + i) (fun j => Value.int (lo8 (cv A (o + (j - q))))) →
      Steps p.tables e below (s₁.setTop (entryFrame m #[.ref b, .int (Int32.ofNat o), .ref d, .int (Int32.ofNat q), .int (Int32.ofNat len)] 7)) (Tl.setTop (mkF m 3 #[.val (.ref b), .val (.int (Int32.ofNat (o + i))), .val (.ref d), .val (.int (Int32.ofNat (q + i))), .val (.int (Int32.ofNat len)), .val (.int (Int32.ofNat i)), z] [])) → ∃ (T' : State) (B' : Cell) (z' : Slot), Stand p l e { frames := 0, locals := 0, cells := 0, slots := 0 } s m #[.ref b, .int (Int32.ofNat o), .ref d, .int (Int32.ofNat q), .int (Int32.ofNat len)] below meth c T' ([] ++ copyLocs d q len) 0 0 ∧ Put d B' s₁ T' ∧ Laid B B' q (q + len) (fun j => Value.int (lo8 (cv A (o + (j - q))))) ∧
      Steps p.tables e below (s₁.setTop (entryFrame m #[.ref b, .int (Int32.ofNat o), .ref d, .int (Int32.ofNat q), .int (Int32.ofNat len)] 7)) (T'.setTop (mkF m 3 #[.val (.ref b), .val (.int (Int32.ofNat (o + len))), .val (.ref d), .val (.int (Int32.ofNat (q + len))), .val (.int (Int32.ofNat len)), .val (.int (Int32.ofNat len)), z'] [])) := by
    intro r
    induction r with
    | zero =>
      intro i hi z hz Tl Bk Xl pl fl cl
      have hil : i = len := by omega
      rw [hil] at Xl fl cl
      exact ⟨Tl, Bk, z, Xl, pl, fl, cl⟩
    | succ r ih =>
      intro i hi z hz Tl Bk Xl pl fl cl
      have all := X0.warmed.alike.symm.trans Xl.warmed.alike
      have hAl := hA0.keep all (pl.other hne hA0.1)
      have hBk := hB0.like all pl.1 fl.1 fl.2.1 fl.2.2.1
      have hlt : q + i < Bk.slots.size := by rw [fl.2.2.1]; omega
      have c3 : Steps p.tables e below (s₁.setTop (entryFrame m #[.ref b, .int (Int32.ofNat o), .ref d, .int (Int32.ofNat q), .int (Int32.ofNat len)] 7)) (Tl.setTop (mkF m 12 #[.val (.ref b), .val (.int (Int32.ofNat (o + i))), .val (.ref d), .val (.int (Int32.ofNat (q + i))), .val (.int (Int32.ofNat len)), .val (.int (Int32.ofNat i)), z] [.int (Int32.ofNat (o + i)), .ref b])) := cl.trans (by
        refine XS.iload Xl.here hexec rfl (hb hbytes d3) rfl ?_
        refine XS.iload Xl.here hexec rfl (hb hbytes d5) rfl ?_
        refine XS.icmpNo Xl.here hexec rfl (hb hbytes d7) rfl (ii_ge_f (lt32 (by omega) (by omega))) ?_
        refine XS.aloadN Xl.here hexec rfl (hb hbytes d10) rfl rfl ?_
        refine XS.iloadN Xl.here hexec rfl (hb hbytes d11) rfl ?_
        exact Steps.refl _)
      have c4 : Steps p.tables e below (s₁.setTop (entryFrame m #[.ref b, .int (Int32.ofNat o), .ref d, .int (Int32.ofNat q), .int (Int32.ofNat len)] 7)) (Tl.setTop (mkF m 13 #[.val (.ref b), .val (.int (Int32.ofNat (o + i))), .val (.ref d), .val (.int (Int32.ofNat (q + i))), .val (.int (Int32.ofNat len)), .val (.int (Int32.ofNat i)), z] [.int (cv A (o + i))])) := c3.trans (by
        refine Xl.aget hexec hAl rfl (hA.get (i := o + i) (by omega)) rfl rfl (hb hbytes d12) ?_
        exact Steps.refl _)
      have c5 : Steps p.tables e below (s₁.setTop (entryFrame m #[.ref b, .int (Int32.ofNat o), .ref d, .int (Int32.ofNat q), .int (Int32.ofNat len)] 7)) (Tl.setTop (mkF m 15 #[.val (.ref b), .val (.int (Int32.ofNat (o + i))), .val (.ref d), .val (.int (Int32.ofNat (q + i))), .val (.int (Int32.ofNat len)), .val (.int (Int32.ofNat i)), .val (.int (cv A (o + i)))] [])) := c4.trans (by
        refine XS.istoreS Xl.here hexec rfl (hb hbytes d13) rfl rfl hz ?_
        exact Steps.refl _)
      have c6 : Steps p.tables e below (s₁.setTop (entryFrame m #[.ref b, .int (Int32.ofNat o), .ref d, .int (Int32.ofNat q), .int (Int32.ofNat len)] 7)) (Tl.setTop (mkF m 31 #[.val (.ref b), .val (.int (Int32.ofNat (o + i))), .val (.ref d), .val (.int (Int32.ofNat (q + i))), .val (.int (Int32.ofNat len)), .val (.int (Int32.ofNat i)), .val (.int (cv A (o + i)))] [.int (lo8 (cv A (o + i))), .int (Int32.ofNat (q + i)), .ref d])) := c5.trans (by
        refine XS.iload Xl.here hexec rfl (hb hbytes d15) rfl ?_
        refine sipushV Xl.here hexec rfl 255 (hb hbytes d17) (by decide) ?_
        refine XS.icmpYes Xl.here hexec rfl (pc0 := 20) rfl (hb hbytes d20) rfl (ii_le_t (hp i (by omega))) (by decide) rfl ?_
        refine XS.aloadN Xl.here hexec rfl (hb hbytes d26) rfl rfl ?_
        refine XS.iloadN Xl.here hexec rfl (hb hbytes d27) rfl ?_
        refine XS.iload Xl.here hexec rfl (hb hbytes d28) rfl ?_
        refine i2b Xl.here hexec rfl (hb hbytes d30) rfl ?_
        exact Steps.refl _)
      obtain ⟨T7, X7, p7, st7⟩ := Xl.aput hexec hBk rfl hlt rfl (fits_lo8 (cv A (o + i))) (g := (mkF m 31 #[.val (.ref b), .val (.int (Int32.ofNat (o + i))), .val (.ref d), .val (.int (Int32.ofNat (q + i))), .val (.int (Int32.ofNat len)), .val (.int (Int32.ofNat i)), .val (.int (cv A (o + i)))] [.int (lo8 (cv A (o + i))), .int (Int32.ofNat (q + i)), .ref d])) rfl (rest := []) rfl (hb hbytes d31)
      have c8 : Steps p.tables e below (s₁.setTop (entryFrame m #[.ref b, .int (Int32.ofNat o), .ref d, .int (Int32.ofNat q), .int (Int32.ofNat len)] 7)) (T7.setTop (mkF m 32 #[.val (.ref b), .val (.int (Int32.ofNat (o + i))), .val (.ref d), .val (.int (Int32.ofNat (q + i))), .val (.int (Int32.ofNat len)), .val (.int (Int32.ofNat i)), .val (.int (cv A (o + i)))] [])) := c6.trans (st7 _ (Steps.refl _))
      have c9 : Steps p.tables e below (s₁.setTop (entryFrame m #[.ref b, .int (Int32.ofNat o), .ref d, .int (Int32.ofNat q), .int (Int32.ofNat len)] 7)) (T7.setTop (mkF m 3 #[.val (.ref b), .val (.int (Int32.ofNat (o + i) + 1)), .val (.ref d), .val (.int (Int32.ofNat (q + i) + 1)), .val (.int (Int32.ofNat len)), .val (.int (Int32.ofNat i + 1)), .val (.int (cv A (o + i)))] [])) := c8.trans (by
        refine iincV X7.here hexec rfl 1 (hb hbytes d32) (by decide) rfl rfl ?_
        refine iincV X7.here hexec rfl 1 (hb hbytes d35) (by decide) rfl rfl ?_
        refine iincV X7.here hexec rfl 1 (hb hbytes d38) (by decide) rfl rfl ?_
        refine XS.goto X7.here hexec rfl (pc0 := 41) rfl (hb hbytes d41) (by decide) rfl ?_
        exact Steps.refl _)
      have c10 : Steps p.tables e below (s₁.setTop (entryFrame m #[.ref b, .int (Int32.ofNat o), .ref d, .int (Int32.ofNat q), .int (Int32.ofNat len)] 7)) (T7.setTop (mkF m 3 #[.val (.ref b), .val (.int (Int32.ofNat (o + (i + 1)))), .val (.ref d), .val (.int (Int32.ofNat (q + (i + 1)))), .val (.int (Int32.ofNat len)), .val (.int (Int32.ofNat (i + 1))), .val (.int (cv A (o + i)))] [])) := by
        have := c9
        rw [succ32, succ32, succ32] at this
        exact this
      exact ih (i + 1) (by omega) _ (Or.inr ⟨_, rfl, rfl⟩) T7 _ (by rw [copyLocs_step, ← List.append_assoc]; exact X7) (pl.trans p7) (fl.step (by omega) hlt (by simp)) c10
  obtain ⟨T9, B9, z9, X9, p9, f9, g9⟩ := loop len 0 (by omega) .unset (Or.inl rfl) s₁ B (by simpa [copyLocs] using X0) ⟨hB0.1, fun _ _ => rfl, rfl⟩ (Laid.zero _ _ _) c2
  have c11 : Steps p.tables e below (s₁.setTop (entryFrame m #[.ref b, .int (Int32.ofNat o), .ref d, .int (Int32.ofNat q), .int (Int32.ofNat len)] 7)) (T9.setTop (mkF m 46 #[.val (.ref b), .val (.int (Int32.ofNat (o + len))), .val (.ref d), .val (.int (Int32.ofNat (q + len))), .val (.int (Int32.ofNat len)), .val (.int (Int32.ofNat len)), z9] [.int (Int32.ofNat len)])) := g9.trans (by
    refine XS.iload X9.here hexec rfl (hb hbytes d3) rfl ?_
    refine XS.iload X9.here hexec rfl (hb hbytes d5) rfl ?_
    refine XS.icmpYes X9.here hexec rfl (pc0 := 7) rfl (hb hbytes d7) rfl (ii_ge_t (nlt32 (by omega) (Nat.le_refl _))) (by decide) rfl ?_
    refine XS.iload X9.here hexec rfl (hb hbytes d44) rfl ?_
    exact Steps.refl _)
  exact ⟨T9, some (.int (Int32.ofNat len)), _, _, _, X9, by simp, rfl, rfl, (fun h => by cases h), ⟨rfl, B9, p9.from hh0, f9⟩, fun fs hl => c11.trans (X9.ireturnOut hexec hret rfl (Or.inl rfl) (hb hbytes d46) hl)⟩
end Cmp5
namespace Cmp3
def yN : MethodName := ⟨"java/lang/StringUTF16", "compress", "([CII)[B"⟩
abbrev yB : ByteArray := jdk_52_method_16_code
theorem d0 : decode yB 0 = .ok (.iload_n 2, 1) := by decide +kernel
theorem d1 : decode yB 1 = .ok (.newarray .byte, 2) := by decide +kernel
theorem d3 : decode yB 3 = .ok (.astore_n 3, 1) := by decide +kernel
theorem d4 : decode yB 4 = .ok (.aload_n 0, 1) := by decide +kernel
theorem d5 : decode yB 5 = .ok (.iload_n 1, 1) := by decide +kernel
theorem d6 : decode yB 6 = .ok (.aload_n 3, 1) := by decide +kernel
theorem d7 : decode yB 7 = .ok (.iconst 0, 1) := by decide +kernel
theorem d8 : decode yB 8 = .ok (.iload_n 2, 1) := by decide +kernel
theorem d9 : decode yB 9 = .ok (.invokestatic 115, 3) := by decide +kernel
theorem d12 : decode yB 12 = .ok (.istore 4, 2) := by decide +kernel
theorem d14 : decode yB 14 = .ok (.iload 4, 2) := by decide +kernel
theorem d16 : decode yB 16 = .ok (.iload_n 2, 1) := by decide +kernel
theorem d17 : decode yB 17 = .ok (.if_icmp (.eq) 40, 3) := by decide +kernel
theorem d57 : decode yB 57 = .ok (.aload_n 3, 1) := by decide +kernel
theorem d58 : decode yB 58 = .ok (.areturn, 1) := by decide +kernel
def site : List Cond := [.arrayClass .byte, Cmp5.tab] ++ staticW U16 115 Cmp5.yN
def tab : Cond := tabOf yN yB 6 (some (.array .byte)) site
def P (b : Addr) (A : Cell) (o len : Nat) (args : Array Value) (s : State) : Prop := args = #[.ref b, .int (Int32.ofNat o), .int (Int32.ofNat len)] ∧ Ch b A s ∧ o + len ≤ A.slots.size ∧ len ≤ 536870912 ∧ ∀ i, i < len → ¬ 255 < cv A (o + i)
def E (b : Addr) (A : Cell) (o len : Nat) (r : Option Value) (s u : State) : Prop := NewArr .byte "[B" len (fun j => .int (lo8 (cv A (o + j)))) r s u ∧ u.heap.size = s.heap.size + 1
/-- no char of the range above 255: a new byte[] of their low bytes -/
theorem law (l : Launch) (b : Addr) (A : Cell) (o len : Nat) : Law l yN 3 3 1 18 yB 6 (some (.array .byte)) site (P b A o len) (E b A o len) [] 1 len := by
  refine Law.of_walk (plainFor_of_name (by decide +kernel)) (by decide +kernel) (by decide +kernel) (by decide) (fun _ _ h => by rw [h.1]; rfl) (fun _ U U' hal hh h => ⟨h.1, h.2.1.mv hal hh, h.2.2⟩) (fun r U U' V V' h1 hal h2 h => ⟨NewArr.mv r U U' V V' h1 hal h2 h.1, by rw [h1, h2]; exact h.2⟩) ?_
  intro p e s m args below meth c s₁ X0 hexec hbytes hml hret hlk hnm hown hh0 W hP
  obtain ⟨rfl, hA, l1, l2, hp⟩ := hP
  have a31 := hA.1.2.2.2
  have c1 : Steps p.tables e below (s₁.setTop (entryFrame m #[.ref b, .int (Int32.ofNat o), .int (Int32.ofNat len)] 6)) (s₁.setTop (mkF m 0 #[.val (.ref b), .val (.int (Int32.ofNat o)), .val (.int (Int32.ofNat len)), .unset, .unset, .unset] [])) := entry rfl
  have c2 : Steps p.tables e below (s₁.setTop (entryFrame m #[.ref b, .int (Int32.ofNat o), .int (Int32.ofNat len)] 6)) (s₁.setTop (mkF m 1 #[.val (.ref b), .val (.int (Int32.ofNat o)), .val (.int (Int32.ofNat len)), .unset, .unset, .unset] [.int (Int32.ofNat len)])) := c1.trans (by
    refine XS.iloadN X0.here hexec rfl (hb hbytes d0) rfl ?_
    exact Steps.refl _)
  obtain ⟨T3, B3, X3, ba3, bs3, bv3, bh3, bf3, st3⟩ := X0.anew hexec (atype := .byte) (wk W (.arrayClass .byte)) rfl (by show len * 1 ≤ _; omega) (by omega) (g := (mkF m 1 #[.val (.ref b), .val (.int (Int32.ofNat o)), .val (.int (Int32.ofNat len)), .unset, .unset, .unset] [.int (Int32.ofNat len)])) rfl (hb hbytes d1) (rest := []) rfl (Nat.le_refl _) (by show 0 + len ≤ len; omega)
  rw [hh0] at ba3 st3
  have kp3 : XT.Kept s T3 := (XT.Kept.of_eq hh0).push bh3
  have hA3 := hA.keep X3.warmed.alike (kp3 _ _ hA.1.1)
  have hne : b ≠ s.heap.size := hA.1.ne
  have c4 : Steps p.tables e below (s₁.setTop (entryFrame m #[.ref b, .int (Int32.ofNat o), .int (Int32.ofNat len)] 6)) (T3.setTop (mkF m 3 #[.val (.ref b), .val (.int (Int32.ofNat o)), .val (.int (Int32.ofNat len)), .unset, .unset, .unset] [.ref s.heap.size])) := c2.trans (st3 _ (Steps.refl _))
  have c5 : Steps p.tables e below (s₁.setTop (entryFrame m #[.ref b, .int (Int32.ofNat o), .int (Int32.ofNat len)] 6)) (T3.setTop (mkF m 9 #[.val (.ref b), .val (.int (Int32.ofNat o)), .val (.int (Int32.ofNat len)), .val (.ref s.heap.size), .unset, .unset] [.int (Int32.ofNat len), .int 0, .ref s.heap.size, .int (Int32.ofNat o), .ref b])) := c4.trans (by
    refine XS.astoreN X3.here hexec rfl (hb hbytes d3) rfl rfl rfl ?_
    refine XS.aloadN X3.here hexec rfl (hb hbytes d4) rfl rfl ?_
    refine XS.iloadN X3.here hexec rfl (hb hbytes d5) rfl ?_
    refine XS.aloadN X3.here hexec rfl (hb hbytes d6) rfl rfl ?_
    refine iconstV X3.here hexec rfl 0 (hb hbytes d7) (by decide) ?_
    refine XS.iloadN X3.here hexec rfl (hb hbytes d8) rfl ?_
    exact Steps.refl _)
  obtain ⟨v6, T6, X6, E6, g6⟩ := X3.callS hexec (Cmp5.law l b A s.heap.size B3 o 0 len) hown (wks W (staticW U16 115 Cmp5.yN)) (wk W Cmp5.tab) (W := 0) (Nat.le_of_ble_eq_true rfl) (Nat.le_of_ble_eq_true rfl) (Nat.le_refl _) (by show 0 + len + 0 ≤ len; omega) (g := (mkF m 9 #[.val (.ref b), .val (.int (Int32.ofNat o)), .val (.int (Int32.ofNat len)), .val (.ref s.heap.size), .unset, .unset] [.int (Int32.ofNat len), .int (Int32.ofNat 0), .ref s.heap.size, .int (Int32.ofNat o), .ref b])) rfl (by rw [hml]; rfl) c5 (argsL := [.ref b, .int (Int32.ofNat o), .ref s.heap.size, .int (Int32.ofNat 0), .int (Int32.ofNat len)]) (rest := []) rfl rfl (by show 2 * 0 + 0 ≤ _; decide) (hb hbytes d9) (⟨rfl, hA3, ba3, hne, l1, by rw [bs3]; simp, hp⟩)
  obtain ⟨rfl, B6, p6, f6⟩ := E6
  have c7 : Steps p.tables e below (s₁.setTop (entryFrame m #[.ref b, .int (Int32.ofNat o), .int (Int32.ofNat len)] 6)) (T6.setTop (mkF m 12 #[.val (.ref b), .val (.int (Int32.ofNat o)), .val (.int (Int32.ofNat len)), .val (.ref s.heap.size), .unset, .unset] [.int (Int32.ofNat len)])) := g6
  have c8 : Steps p.tables e below (s₁.setTop (entryFrame m #[.ref b, .int (Int32.ofNat o), .int (Int32.ofNat len)] 6)) (T6.setTop (mkF m 58 #[.val (.ref b), .val (.int (Int32.ofNat o)), .val (.int (Int32.ofNat len)), .val (.ref s.heap.size), .val (.int (Int32.ofNat len)), .unset] [.ref s.heap.size])) := c7.trans (by
    refine XS.istore X6.here hexec rfl (hb hbytes d12) rfl rfl ?_
    refine XS.iload X6.here hexec rfl (hb hbytes d14) rfl ?_
    refine XS.iloadN X6.here hexec rfl (hb hbytes d16) rfl ?_
    refine XS.icmpYes X6.here hexec rfl (pc0 := 17) rfl (hb hbytes d17) rfl (ii_eq_t rfl) (by decide) rfl ?_
    refine XS.aloadN X6.here hexec rfl (hb hbytes d57) rfl rfl ?_
    exact Steps.refl _)
  have X8 := X6.wide (L' := []) (cells' := 1) (slots' := len) (fun x hx hlt => by
    simp only [List.nil_append, copyLocs, List.mem_map, List.mem_range] at hx
    obtain ⟨i, -, rfl⟩ := hx
    exact absurd hlt (Nat.lt_irrefl _)) (Nat.le_refl _) (by omega)
  exact ⟨T6, some (.ref s.heap.size), _, _, _, X8, rfl, rfl, rfl, (fun h => by cases h), ⟨⟨rfl, B6, ba3.like (X3.warmed.alike.symm.trans X6.warmed.alike) p6.1 f6.1 f6.2.1 f6.2.2.1, f6.2.1.trans bv3, by rw [X6.warmed.alike.findClass, f6.1]; exact bf3, by rw [f6.2.2.1, bs3]; simp, fun j hj => by rw [f6.2.2.2 j, if_pos (by omega)]; rfl, kp3.put p6 (Nat.le_refl _)⟩, by rw [p6.2.2, bh3, hh0]; simp⟩, fun fs hl => c8.trans (X8.areturnOut hexec rfl hret rfl (hb hbytes d58) hl)⟩
end Cmp3
namespace CodL
def yN : MethodName := ⟨"java/lang/StringUTF16", "coderFromArrayLen", "([BI)B"⟩
abbrev yB : ByteArray := jdk_52_method_15_code
theorem d0 : decode yB 0 = .ok (.iload_n 1, 1) := by decide +kernel
theorem d1 : decode yB 1 = .ok (.aload_n 0, 1) := by decide +kernel
theorem d2 : decode yB 2 = .ok (.arraylength, 1) := by decide +kernel
theorem d3 : decode yB 3 = .ok (.isub, 1) := by decide +kernel
theorem d4 : decode yB 4 = .ok (.bipush 31, 2) := by decide +kernel
theorem d6 : decode yB 6 = .ok (.iushr, 1) := by decide +kernel
theorem d7 : decode yB 7 = .ok (.i2b, 1) := by decide +kernel
theorem d8 : decode yB 8 = .ok (.ireturn, 1) := by decide +kernel
def site : List Cond := []
def tab : Cond := tabOf yN yB 2 (some .byte) site
def P (d : Addr) (B : Cell) (args : Array Value) (s : State) : Prop := args = #[.ref d, .int (Int32.ofNat B.slots.size)] ∧ Arr .byte d B s
def E (r : Option Value) (s u : State) : Prop := XT.PureE (some (.int 0)) r s u
/-- an array as long as the number of chars: LATIN1 -/
theorem law (l : Launch) (d : Addr) (B : Cell) : Law l yN 2 2 0 0 yB 2 (some .byte) site (P d B) E [] 0 0 := by
  refine Law.of_walk (plainFor_of_name (by decide +kernel)) (by decide +kernel) (by decide +kernel) (by decide) (fun _ _ h => by rw [h.1]; rfl) (fun _ U U' hal hh h => ⟨h.1, h.2.mv hal hh⟩) (fun r U U' V V' h1 hal h2 h => XT.PureE.mv r U U' V V' h1 hal h2 h) ?_
  intro p e s m args below meth c s₁ X0 hexec hbytes hml hret hlk hnm hown hh0 W hP
  obtain ⟨rfl, hB⟩ := hP
  have hB0 := hB.mv X0.warmed.alike hh0
  have c1 : Steps p.tables e below (s₁.setTop (entryFrame m #[.ref d, .int (Int32.ofNat B.slots.size)] 2)) (s₁.setTop (mkF m 0 #[.val (.ref d), .val (.int (Int32.ofNat B.slots.size))] [])) := entry rfl
  have c2 : Steps p.tables e below (s₁.setTop (entryFrame m #[.ref d, .int (Int32.ofNat B.slots.size)] 2)) (s₁.setTop (mkF m 2 #[.val (.ref d), .val (.int (Int32.ofNat B.slots.size))] [.ref d, .int (Int32.ofNat B.slots.size)])) := c1.trans (by
    refine XS.iloadN X0.here hexec rfl (hb hbytes d0) rfl ?_
    refine XS.aloadN X0.here hexec rfl (hb hbytes d1) rfl rfl ?_
    exact Steps.refl _)
  have c3 : Steps p.tables e below (s₁.setTop (entryFrame m #[.ref d, .int (Int32.ofNat B.slots.size)] 2)) (s₁.setTop (mkF m 8 #[.val (.ref d), .val (.int (Int32.ofNat B.slots.size))] [.int (lo8 (ushr (Int32.ofNat B.slots.size - Int32.ofNat B.slots.size) 31))])) := c2.trans (by
    refine X0.alen hexec hB0 rfl rfl (hb hbytes d2) ?_
    refine XS.isub X0.here hexec rfl (hb hbytes d3) rfl ?_
    refine bipushV X0.here hexec rfl 31 (hb hbytes d4) (by decide) ?_
    refine iushr X0.here hexec rfl (hb hbytes d6) rfl ?_
    refine i2b X0.here hexec rfl (hb hbytes d7) rfl ?_
    exact Steps.refl _)
  have e0 : lo8 (ushr (Int32.ofNat B.slots.size - Int32.ofNat B.slots.size) 31) = 0 := by rw [Int32.sub_self]; decide
  rw [e0] at c3
  exact ⟨s₁, some (.int 0), _, _, _, X0, rfl, rfl, rfl, (fun h => by cases h), ⟨rfl, hh0⟩, fun fs hl => c3.trans (X0.ireturnOut hexec hret rfl (Or.inr (Or.inr (Or.inl rfl))) (hb hbytes d8) hl)⟩
end CodL
/-- the String at a is Latin-1 over a new byte[] (the heap's one new cell): the low bytes of the len chars of A from o on; every cell but a is kept -/
def Got (a : Addr) (D : Cell) (fV fC : Field) (A : Cell) (o len : Nat) (r : Option Value) (s u : State) : Prop := r = none ∧ ∃ D' V : Cell, Blank "java/lang/String" a D' u ∧ Same D D' [fV.slot, fC.slot] ∧ D'.slots[fV.slot]? = some (.ref s.heap.size) ∧ D'.slots[fC.slot]? = some (.int 0) ∧ Arr .byte s.heap.size V u ∧ V.vm = .none ∧ u.vm.findClass "[B" = some V.cls ∧ V.slots.size = len ∧ (∀ j, j < len → V.slots[j]? = some (.int (lo8 (cv A (o + j))))) ∧ (∀ (y : Addr) (c : Cell), y ≠ a → s.heap[y]? = some c → u.heap[y]? = some c) ∧ u.heap.size = s.heap.size + 1
theorem Got.mv {a : Addr} {D A : Cell} {fV fC : Field} {o len : Nat} : ∀ r (U U' V V' : State), U'.heap = U.heap → V.vm.Alike V'.vm → V'.heap = V.heap → Got a D fV fC A o len r U V → Got a D fV fC A o len r U' V' :=
  fun r U U' V V' h1 hal h2 ⟨e0, D', X, a1, a2, a3, a4, a5, a6, a7, a8, a9, a10, a11⟩ => ⟨e0, D', X, a1.mv hal h2, a2, by rw [h1]; exact a3, a4, by rw [h1]; exact a5.mv hal h2, a6, by rw [hal.findClass]; exact a7, a8, a9, by rw [h1, h2]; exact a10, by rw [h1, h2]; exact a11⟩
namespace New4
def yN : MethodName := ⟨"java/lang/String", "<init>", "([CIILjava/lang/Void;)V"⟩
abbrev yB : ByteArray := jdk_42_method_149_code
theorem d0 : decode yB 0 = .ok (.aload_n 0, 1) := by decide +kernel
theorem d1 : decode yB 1 = .ok (.invokespecial 1, 3) := by decide +kernel
theorem d4 : decode yB 4 = .ok (.iload_n 3, 1) := by decide +kernel
theorem d5 : decode yB 5 = .ok (.ifCond (.ne) 22, 3) := by decide +kernel
theorem d27 : decode yB 27 = .ok (.getstatic 38, 3) := by decide +kernel
theorem d30 : decode yB 30 = .ok (.ifCond (.eq) 28, 3) := by decide +kernel
theorem d33 : decode yB 33 = .ok (.aload_n 1, 1) := by decide +kernel
theorem d34 : decode yB 34 = .ok (.iload_n 2, 1) := by decide +kernel
theorem d35 : decode yB 35 = .ok (.iload_n 3, 1) := by decide +kernel
theorem d36 : decode yB 36 = .ok (.invokestatic 177, 3) := by decide +kernel
theorem d39 : decode yB 39 = .ok (.astore 5, 2) := by decide +kernel
theorem d41 : decode yB 41 = .ok (.aload_n 0, 1) := by decide +kernel
theorem d42 : decode yB 42 = .ok (.aload 5, 2) := by decide +kernel
theorem d44 : decode yB 44 = .ok (.iload_n 3, 1) := by decide +kernel
theorem d45 : decode yB 45 = .ok (.invokestatic 47, 3) := by decide +kernel
theorem d48 : decode yB 48 = .ok (.putfield 15, 3) := by decide +kernel
theorem d51 : decode yB 51 = .ok (.aload_n 0, 1) := by decide +kernel
theorem d52 : decode yB 52 = .ok (.aload 5, 2) := by decide +kernel
theorem d54 : decode yB 54 = .ok (.putfield 9, 3) := by decide +kernel
theorem d57 : decode yB 57 = .ok (.return_, 1) := by decide +kernel
def site : List Cond := [.fieldLink "java/lang/String" 38 "java/lang/String" "COMPACT_STRINGS" "Z", Cmp3.tab, CodL.tab, .laysFinal "java/lang/String" "java/lang/String" "value" "[B", .fieldLink "java/lang/String" 9 "java/lang/String" "value" "[B", .laysFinal "java/lang/String" "java/lang/String" "coder" "B", .fieldLink "java/lang/String" 15 "java/lang/String" "coder" "B"] ++ objW "java/lang/String" 1 ++ staticW "java/lang/String" 177 Cmp3.yN ++ staticW "java/lang/String" 47 CodL.yN
def tab : Cond := tabOf yN yB 6 none site
def P (a : Addr) (D : Cell) (fV fC : Field) (b : Addr) (A : Cell) (z : Int32) (o len : Nat) (args : Array Value) (s : State) : Prop := args = #[.ref a, .ref b, .int (Int32.ofNat o), .int (Int32.ofNat len), .null] ∧ Blank "java/lang/String" a D s ∧ Found "java/lang/String" "value" "[B" fV s ∧ Found "java/lang/String" "coder" "B" fC s ∧ Ch b A s ∧ StaticIs s "java/lang/String" "COMPACT_STRINGS" "Z" (.int z) ∧ ¬ z = 0 ∧ 0 < len ∧ o + len ≤ A.slots.size ∧ len ≤ 536870912 ∧ ∀ i, i < len → ¬ 255 < cv A (o + i)
def E (a : Addr) (D : Cell) (fV fC : Field) (A : Cell) (o len : Nat) (r : Option Value) (s u : State) : Prop := Got a D fV fC A o len r s u
/-- len > 0, no char of the range above 255: a Latin-1 String of their low bytes -/
theorem law (l : Launch) (a : Addr) (D : Cell) (fV fC : Field) (b : Addr) (A : Cell) (z : Int32) (o len : Nat) : Law l yN 5 4 2 35 yB 6 none site (P a D fV fC b A z o len) (E a D fV fC A o len) [⟨a, fC.slot⟩, ⟨a, fV.slot⟩] 1 len := by
  refine Law.of_walk (plainFor_of_name (by decide +kernel)) (by decide +kernel) (by decide +kernel) (by decide) (fun _ _ h => by rw [h.1]; rfl) (fun _ U U' hal hh h => ⟨h.1, h.2.1.mv hal hh, h.2.2.1.al hal, h.2.2.2.1.al hal, h.2.2.2.2.1.mv hal hh, h.2.2.2.2.2.1.there hal hh, h.2.2.2.2.2.2⟩) (fun r U U' V V' h1 hal h2 h => Got.mv r U U' V V' h1 hal h2 h) ?_
  intro p e s m args below meth c s₁ X0 hexec hbytes hml hret hlk hnm hown hh0 W hP
  obtain ⟨rfl, hB, f1, f2, hA, s1, hz, l0, l1, l2, hp⟩ := hP
  have a31 := hA.1.2.2.2
  have c1 : Steps p.tables e below (s₁.setTop (entryFrame m #[.ref a, .ref b, .int (Int32.ofNat o), .int (Int32.ofNat len), .null] 6)) (s₁.setTop (mkF m 0 #[.val (.ref a), .val (.ref b), .val (.int (Int32.ofNat o)), .val (.int (Int32.ofNat len)), .val .null, .unset] [])) := entry rfl
  have c2 : Steps p.tables e below (s₁.setTop (entryFrame m #[.ref a, .ref b, .int (Int32.ofNat o), .int (Int32.ofNat len), .null] 6)) (s₁.setTop (mkF m 1 #[.val (.ref a), .val (.ref b), .val (.int (Int32.ofNat o)), .val (.int (Int32.ofNat len)), .val .null, .unset] [.ref a])) := c1.trans (by
    refine XS.aloadN X0.here hexec rfl (hb hbytes d0) rfl rfl ?_
    exact Steps.refl _)
  obtain ⟨T3, X3, q3, st3⟩ := X0.oinit hexec hown (wks W (objW "java/lang/String" 1)) (g := (mkF m 1 #[.val (.ref a), .val (.ref b), .val (.int (Int32.ofNat o)), .val (.int (Int32.ofNat len)), .val .null, .unset] [.ref a])) rfl (by rw [hml]; rfl) (rest := []) rfl (hb hbytes d1) (W := 0) (by show 2 * 0 + 0 ≤ _; decide) (Nat.le_of_ble_eq_true rfl) (Nat.le_of_ble_eq_true rfl)
  have hh3 := q3.trans hh0
  have c4 : Steps p.tables e below (s₁.setTop (entryFrame m #[.ref a, .ref b, .int (Int32.ofNat o), .int (Int32.ofNat len), .null] 6)) (T3.setTop (mkF m 27 #[.val (.ref a), .val (.ref b), .val (.int (Int32.ofNat o)), .val (.int (Int32.ofNat len)), .val .null, .unset] [])) := (c2.trans (st3 _ (Steps.refl _))).trans (by
    refine XS.iloadN X3.here hexec rfl (hb hbytes d4) rfl ?_
    refine XS.ifYes X3.here hexec rfl (pc0 := 5) rfl (hb hbytes d5) rfl (i0_ne_t (nz32 (by omega) l0)) (by decide) rfl ?_
    exact Steps.refl _)
  obtain ⟨T5, X5, q5, st5⟩ := X3.sget hexec hown (wk W (.fieldLink "java/lang/String" 38 "java/lang/String" "COMPACT_STRINGS" "Z")) s1 (fun _ _ h => by rw [hh3]; exact h) (g := (mkF m 27 #[.val (.ref a), .val (.ref b), .val (.int (Int32.ofNat o)), .val (.int (Int32.ofNat len)), .val .null, .unset] [])) rfl (hb hbytes d27)
  have hh5 := q5.trans hh3
  have c6 : Steps p.tables e below (s₁.setTop (entryFrame m #[.ref a, .ref b, .int (Int32.ofNat o), .int (Int32.ofNat len), .null] 6)) (T5.setTop (mkF m 30 #[.val (.ref a), .val (.ref b), .val (.int (Int32.ofNat o)), .val (.int (Int32.ofNat len)), .val .null, .unset] [.int z])) := c4.trans (st5 _ (Steps.refl _))
  have c7 : Steps p.tables e below (s₁.setTop (entryFrame m #[.ref a, .ref b, .int (Int32.ofNat o), .int (Int32.ofNat len), .null] 6)) (T5.setTop (mkF m 36 #[.val (.ref a), .val (.ref b), .val (.int (Int32.ofNat o)), .val (.int (Int32.ofNat len)), .val .null, .unset] [.int (Int32.ofNat len), .int (Int32.ofNat o), .ref b])) := c6.trans (by
    refine XS.ifNo X5.here hexec rfl (hb hbytes d30) rfl (i0_eq_f hz) ?_
    refine XS.aloadN X5.here hexec rfl (hb hbytes d33) rfl rfl ?_
    refine XS.iloadN X5.here hexec rfl (hb hbytes d34) rfl ?_
    refine XS.iloadN X5.here hexec rfl (hb hbytes d35) rfl ?_
    exact Steps.refl _)
  obtain ⟨v8, T8, X8, E8, g8⟩ := X5.callS hexec (Cmp3.law l b A o len) hown (wks W (staticW "java/lang/String" 177 Cmp3.yN)) (wk W Cmp3.tab) (W := 0) (Nat.le_of_ble_eq_true rfl) (Nat.le_of_ble_eq_true rfl) (Nat.le_refl _) (by show 0 + len ≤ len; omega) (g := (mkF m 36 #[.val (.ref a), .val (.ref b), .val (.int (Int32.ofNat o)), .val (.int (Int32.ofNat len)), .val .null, .unset] [.int (Int32.ofNat len), .int (Int32.ofNat o), .ref b])) rfl (by rw [hml]; rfl) c7 (argsL := [.ref b, .int (Int32.ofNat o), .int (Int32.ofNat len)]) (rest := []) rfl rfl (by show 2 * 0 + 0 ≤ _; decide) (hb hbytes d36) (⟨rfl, hA.mv X5.warmed.alike hh5, l1, l2, hp⟩)
  obtain ⟨e8, z8⟩ := E8
  obtain ⟨rfl, N, n1, n2, n3, n4, n5, n6⟩ := NewArr.mv _ T5 s _ _ hh5.symm (Vm.Alike.refl _) rfl e8
  rw [hh5] at z8
  have hB1 := hB.keep X8.warmed.alike (n6 _ _ hB.1)
  have hne : s.heap.size ≠ a := (Nat.ne_of_lt (Array.getElem?_eq_some_iff.mp hB.1).1).symm
  have c9 : Steps p.tables e below (s₁.setTop (entryFrame m #[.ref a, .ref b, .int (Int32.ofNat o), .int (Int32.ofNat len), .null] 6)) (T8.setTop (mkF m 39 #[.val (.ref a), .val (.ref b), .val (.int (Int32.ofNat o)), .val (.int (Int32.ofNat len)), .val .null, .unset] [.ref s.heap.size])) := g8
  have c10 : Steps p.tables e below (s₁.setTop (entryFrame m #[.ref a, .ref b, .int (Int32.ofNat o), .int (Int32.ofNat len), .null] 6)) (T8.setTop (mkF m 45 #[.val (.ref a), .val (.ref b), .val (.int (Int32.ofNat o)), .val (.int (Int32.ofNat len)), .val .null, .val (.ref s.heap.size)] [.int (Int32.ofNat N.slots.size), .ref s.heap.size, .ref a])) := by
    have hc : Steps p.tables e below (s₁.setTop (entryFrame m #[.ref a, .ref b, .int (Int32.ofNat o), .int (Int32.ofNat len), .null] 6)) (T8.setTop (mkF m 45 #[.val (.ref a), .val (.ref b), .val (.int (Int32.ofNat o)), .val (.int (Int32.ofNat len)), .val .null, .val (.ref s.heap.size)] [.int (Int32.ofNat len), .ref s.heap.size, .ref a])) := c9.trans (by
      refine XS.astore X8.here hexec rfl (hb hbytes d39) rfl rfl rfl ?_
      refine XS.aloadN X8.here hexec rfl (hb hbytes d41) rfl rfl ?_
      refine XS.aload X8.here hexec rfl (hb hbytes d42) rfl rfl ?_
      refine XS.iloadN X8.here hexec rfl (hb hbytes d44) rfl ?_
      exact Steps.refl _)
    rw [n4]; exact hc
  obtain ⟨v11, T11, X11, E11, g11⟩ := X8.callS hexec (CodL.law l s.heap.size N) hown (wks W (staticW "java/lang/String" 47 CodL.yN)) (wk W CodL.tab) (W := 1) (Nat.le_of_ble_eq_true rfl) (Nat.le_of_ble_eq_true rfl) (Nat.le_refl _) (by show 0 + len + 0 ≤ len; omega) (g := (mkF m 45 #[.val (.ref a), .val (.ref b), .val (.int (Int32.ofNat o)), .val (.int (Int32.ofNat len)), .val .null, .val (.ref s.heap.size)] [.int (Int32.ofNat N.slots.size), .ref s.heap.size, .ref a])) rfl (by rw [hml]; rfl) c10 (argsL := [.ref s.heap.size, .int (Int32.ofNat N.slots.size)]) (rest := [.ref a]) rfl rfl (by show 2 * 0 + (1 + 0) ≤ _; decide) (hb hbytes d45) (⟨rfl, n1⟩)
  obtain ⟨rfl, q11⟩ := E11
  have hB11 := hB1.mv (X8.warmed.alike.symm.trans X11.warmed.alike) q11
  have c12 : Steps p.tables e below (s₁.setTop (entryFrame m #[.ref a, .ref b, .int (Int32.ofNat o), .int (Int32.ofNat len), .null] 6)) (T11.setTop (mkF m 48 #[.val (.ref a), .val (.ref b), .val (.int (Int32.ofNat o)), .val (.int (Int32.ofNat len)), .val .null, .val (.ref s.heap.size)] [.int 0, .ref a])) := g11
  obtain ⟨T13, X13, p13, bl13, sl13, st13⟩ := X11.finit hexec hown (wk W (.fieldLink "java/lang/String" 15 "java/lang/String" "coder" "B")) (Or.inr ⟨_, (wk W (.laysFinal "java/lang/String" "java/lang/String" "coder" "B"))⟩) (Or.inl ⟨rfl, hnm⟩) f2 (Or.inl rfl) hB11 (t := .byte) (by decide +kernel) rfl (g := (mkF m 48 #[.val (.ref a), .val (.ref b), .val (.int (Int32.ofNat o)), .val (.int (Int32.ofNat len)), .val .null, .val (.ref s.heap.size)] [.int 0, .ref a])) rfl (rest := []) rfl (hb hbytes d48)
  have c14 : Steps p.tables e below (s₁.setTop (entryFrame m #[.ref a, .ref b, .int (Int32.ofNat o), .int (Int32.ofNat len), .null] 6)) (T13.setTop (mkF m 54 #[.val (.ref a), .val (.ref b), .val (.int (Int32.ofNat o)), .val (.int (Int32.ofNat len)), .val .null, .val (.ref s.heap.size)] [.ref s.heap.size, .ref a])) := (c12.trans (st13 _ (Steps.refl _))).trans (by
    refine XS.aloadN X13.here hexec rfl (hb hbytes d51) rfl rfl ?_
    refine XS.aload X13.here hexec rfl (hb hbytes d52) rfl rfl ?_
    exact Steps.refl _)
  obtain ⟨T15, X15, p15, bl15, sl15, st15⟩ := X13.finit hexec hown (wk W (.fieldLink "java/lang/String" 9 "java/lang/String" "value" "[B")) (Or.inr ⟨_, (wk W (.laysFinal "java/lang/String" "java/lang/String" "value" "[B"))⟩) (Or.inl ⟨rfl, hnm⟩) f1 (Or.inl rfl) bl13 (t := (.array .byte)) (by decide +kernel) rfl (g := (mkF m 54 #[.val (.ref a), .val (.ref b), .val (.int (Int32.ofNat o)), .val (.int (Int32.ofNat len)), .val .null, .val (.ref s.heap.size)] [.ref s.heap.size, .ref a])) rfl (rest := []) rfl (hb hbytes d54)
  have c16 : Steps p.tables e below (s₁.setTop (entryFrame m #[.ref a, .ref b, .int (Int32.ofNat o), .int (Int32.ofNat len), .null] 6)) (T15.setTop (mkF m 57 #[.val (.ref a), .val (.ref b), .val (.int (Int32.ofNat o)), .val (.int (Int32.ofNat len)), .val .null, .val (.ref s.heap.size)] [])) := c14.trans (st15 _ (Steps.refl _))
  have ap := apart (Or.inr ⟨_, (wk W (.laysFinal "java/lang/String" "java/lang/String" "value" "[B"))⟩) (Or.inr ⟨_, (wk W (.laysFinal "java/lang/String" "java/lang/String" "coder" "B"))⟩) f1 f2 (t₁ := .array .byte) (t₂ := .byte) (by decide +kernel) (by decide +kernel) (by decide)
  have al := X8.warmed.alike.symm.trans X15.warmed.alike
  have n7 : T11.heap[s.heap.size]? = some N := by rw [q11]; exact n1.1
  exact ⟨T15, none, _, _, _, X15, by simp, rfl, by omega, (fun _ => rfl), ⟨rfl, _, N, bl15, ((Same.refl D _).set _ (by simp)).set _ (by simp), sl15, (Cell.slots_setSlot_ne _ ap).trans sl13, n1.keep al (p15.other hne (p13.other hne n7)), n2, by rw [al.findClass]; exact n3, n4, n5, fun y c h1 h2 => p15.other h1 (p13.other h1 (by rw [q11]; exact n6 y c h2)), by rw [p15.2.2, p13.2.2, q11]; exact z8⟩, fun fs hl => c16.trans (X15.returnOut hexec hret (hb hbytes d57) hl)⟩
end New4
namespace New1
def yN : MethodName := ⟨"java/lang/String", "<init>", "([C)V"⟩
abbrev yB : ByteArray := jdk_42_method_3_code
theorem d0 : decode yB 0 = .ok (.aload_n 0, 1) := by decide +kernel
theorem d1 : decode yB 1 = .ok (.aload_n 1, 1) := by decide +kernel
theorem d2 : decode yB 2 = .ok (.iconst 0, 1) := by decide +kernel
theorem d3 : decode yB 3 = .ok (.aload_n 1, 1) := by decide +kernel
theorem d4 : decode yB 4 = .ok (.arraylength, 1) := by decide +kernel
theorem d5 : decode yB 5 = .ok (.aconst_null, 1) := by decide +kernel
theorem d6 : decode yB 6 = .ok (.invokespecial 27, 3) := by decide +kernel
theorem d9 : decode yB 9 = .ok (.return_, 1) := by decide +kernel
def site : List Cond := [New4.tab] ++ initW "java/lang/String" 27 New4.yN
def tab : Cond := tabOf yN yB 2 none site
def P (a : Addr) (D : Cell) (fV fC : Field) (b : Addr) (A : Cell) (z : Int32) (args : Array Value) (s : State) : Prop := args = #[.ref a, .ref b] ∧ Blank "java/lang/String" a D s ∧ Found "java/lang/String" "value" "[B" fV s ∧ Found "java/lang/String" "coder" "B" fC s ∧ Ch b A s ∧ StaticIs s "java/lang/String" "COMPACT_STRINGS" "Z" (.int z) ∧ ¬ z = 0 ∧ 0 < A.slots.size ∧ A.slots.size ≤ 536870912 ∧ ∀ i, i < A.slots.size → ¬ 255 < cv A i
def E (a : Addr) (D : Cell) (fV fC : Field) (A : Cell) (r : Option Value) (s u : State) : Prop := Got a D fV fC A 0 A.slots.size r s u
/-- new String(chars), not empty, no char above 255: a Latin-1 String of their low bytes -/
theorem law (l : Launch) (a : Addr) (D : Cell) (fV fC : Field) (b : Addr) (A : Cell) (z : Int32) : Law l yN 2 1 3 52 yB 2 none site (P a D fV fC b A z) (E a D fV fC A) [⟨a, fC.slot⟩, ⟨a, fV.slot⟩] 1 A.slots.size := by
  refine Law.of_walk (plainFor_of_name (by decide +kernel)) (by decide +kernel) (by decide +kernel) (by decide) (fun _ _ h => by rw [h.1]; rfl) (fun _ U U' hal hh h => ⟨h.1, h.2.1.mv hal hh, h.2.2.1.al hal, h.2.2.2.1.al hal, h.2.2.2.2.1.mv hal hh, h.2.2.2.2.2.1.there hal hh, h.2.2.2.2.2.2⟩) (fun r U U' V V' h1 hal h2 h => Got.mv r U U' V V' h1 hal h2 h) ?_
  intro p e s m args below meth c s₁ X0 hexec hbytes hml hret hlk hnm hown hh0 W hP
  obtain ⟨rfl, hB, f1, f2, hA, s1, hz, l0, l2, hp⟩ := hP
  have c1 : Steps p.tables e below (s₁.setTop (entryFrame m #[.ref a, .ref b] 2)) (s₁.setTop (mkF m 0 #[.val (.ref a), .val (.ref b)] [])) := entry rfl
  have c2 : Steps p.tables e below (s₁.setTop (entryFrame m #[.ref a, .ref b] 2)) (s₁.setTop (mkF m 6 #[.val (.ref a), .val (.ref b)] [.null, .int (Int32.ofNat A.slots.size), .int 0, .ref b, .ref a])) := c1.trans (by
    refine XS.aloadN X0.here hexec rfl (hb hbytes d0) rfl rfl ?_
    refine XS.aloadN X0.here hexec rfl (hb hbytes d1) rfl rfl ?_
    refine iconstV X0.here hexec rfl 0 (hb hbytes d2) (by decide) ?_
    refine XS.aloadN X0.here hexec rfl (hb hbytes d3) rfl rfl ?_
    refine X0.alen hexec (hA.1.mv X0.warmed.alike hh0) rfl rfl (hb hbytes d4) ?_
    refine XS.aconstNull X0.here hexec rfl (hb hbytes d5) ?_
    exact Steps.refl _)
  obtain ⟨v3, T3, X3, E3, g3⟩ := X0.callN hexec (New4.law l a D fV fC b A z 0 A.slots.size) rfl hown (wks W (initW "java/lang/String" 27 New4.yN)) (W New4.tab (by simp only [site, List.mem_cons, List.mem_append, true_or, or_true])) (W := 0) (Nat.le_of_ble_eq_true rfl) (Nat.le_of_ble_eq_true rfl) (Nat.le_refl _) (by show 0 + A.slots.size ≤ A.slots.size; omega) (g := (mkF m 6 #[.val (.ref a), .val (.ref b)] [.null, .int (Int32.ofNat A.slots.size), .int (Int32.ofNat 0), .ref b, .ref a])) rfl (by rw [hml]; rfl) c2 (argsL := [.ref b, .int (Int32.ofNat 0), .int (Int32.ofNat A.slots.size), .null]) (rest := []) rfl rfl (by show 2 * 0 + 0 ≤ _; decide) (hb hbytes d6) (⟨rfl, hB.mv X0.warmed.alike hh0, f1.al X0.warmed.alike, f2.al X0.warmed.alike, hA.mv X0.warmed.alike hh0, s1.there X0.warmed.alike hh0, hz, l0, by omega, l2, fun i hi => by rw [Nat.zero_add]; exact hp i hi⟩)
  have e0 := Got.mv _ s₁ s _ _ hh0.symm (Vm.Alike.refl _) rfl E3
  obtain rfl := e0.1
  have c4 : Steps p.tables e below (s₁.setTop (entryFrame m #[.ref a, .ref b] 2)) (T3.setTop (mkF m 9 #[.val (.ref a), .val (.ref b)] [])) := g3
  exact ⟨T3, none, _, _, _, X3, by simp, rfl, by omega, (fun _ => rfl), e0, fun fs hl => c4.trans (X3.returnOut hexec hret (hb hbytes d9) hl)⟩
theorem pays {l : Launch} {R : Room} {p : Program} {e : Env} {below : List Frame} {s : State} {sargs : Array Value} {len W : Nat} (a : Addr) (D : Cell) (fV fC : Field) (b : Addr) (A : Cell) (z : Int32) (htab : tab.before sargs s = true) (hfr : 4 ≤ R.frames) (hlo : W + 65 ≤ R.locals) :
    Back l R p e below s sargs yN len W (fun A₁ a₁ => A₁.cells + 1 ≤ R.cells ∧ A₁.slots + A.slots.size ≤ R.slots ∧ P a D fV fC b A z a₁ A₁.U) (fun A₁ _ v₁ B₁ => E a D fV fC A v₁ A₁.U B₁.U ∧ B₁.locs = A₁.locs ++ [⟨a, fC.slot⟩, ⟨a, fV.slot⟩] ∧ B₁.cells = A₁.cells + 1 ∧ B₁.slots = A₁.slots + A.slots.size) :=
  (law l a D fV fC b A z).pays htab hfr (by omega)
end New1
/-- the byte, read back as charAt reads it, is the char -/
theorem lo8_mask {x : Int32} (h0 : ¬ x < 0) (h1 : ¬ 255 < x) : lo8 x &&& 255 = x := by
  have t : ∀ k : Fin 256, lo8 (Int32.ofNat k.val) &&& 255 = Int32.ofNat k.val := by decide +kernel
  rw [Int32.lt_iff_toInt_lt] at h0 h1
  have e0 : (0 : Int32).toInt = 0 := rfl
  have e1 : (255 : Int32).toInt = 255 := rfl
  obtain ⟨k, hk⟩ : ∃ k : Nat, x.toInt = k := ⟨x.toInt.toNat, by omega⟩
  have hx : x = Int32.ofNat k := Int32.toInt_inj.mp (by rw [hk, Int32.toInt_ofNat_small (by omega)])
  rw [hx]
  exact t ⟨k, by omega⟩
end StrChars
namespace StrChars.Road
open Jvm Sem ClassFile Op Lib Jvm.Stand Jvm.Free Jvm.Free.XT
open Jvm.Lib.Cold (StaticIs)
abbrev ST : String := "java/lang/String"
/-- every table word that New1's law asks, flat -/
abbrev words : List Jvm.Cond := [.code New1.yN New1.yB 2 none, .initialized ST, .methodLink ST 27 New4.yN, .instanceMethod New4.yN,
  .code New4.yN New4.yB 6 none, .fieldLink ST 38 ST "COMPACT_STRINGS" "Z", .laysFinal ST ST "value" "[B", .fieldLink ST 9 ST "value" "[B", .laysFinal ST ST "coder" "B", .fieldLink ST 15 ST "coder" "B",
  .methodLink ST 1 Lib.objectInit, .instanceMethod Lib.objectInit, .code Lib.objectInit ⟨#[0xb1]⟩ 1 none, .methodLink ST 177 Cmp3.yN, .static Cmp3.yN, .methodLink ST 47 CodL.yN, .static CodL.yN,
  .code Cmp3.yN Cmp3.yB 6 (some (.array .byte)), .initialized U16, .arrayClass .byte, .methodLink U16 115 Cmp5.yN, .static Cmp5.yN, .code Cmp5.yN Cmp5.yB 7 (some .int), .code CodL.yN CodL.yB 2 (some .byte)]
theorem tab_of {a : Array Value} {s : State} (h : ∀ w ∈ words, w.before a s = true) : New1.tab.before a s = true := by
  have h5 : Cmp5.tab.before a s = true := unparts (wk h (.code Cmp5.yN Cmp5.yB 7 (some .int))) (wks h (.initialized Cmp5.yN.cls :: Cmp5.site))
  have hc : CodL.tab.before a s = true := unparts (wk h (.code CodL.yN CodL.yB 2 (some .byte))) (wks h (.initialized CodL.yN.cls :: CodL.site))
  have q5 : ∀ w ∈ Cmp5.tab :: words, w.before a s = true := fun w hw => (List.mem_cons.mp hw).elim (fun e => e ▸ h5) (h w)
  have h3 : Cmp3.tab.before a s = true := unparts (wk q5 (.code Cmp3.yN Cmp3.yB 6 (some (.array .byte)))) (wks q5 (.initialized Cmp3.yN.cls :: Cmp3.site))
  have q3 : ∀ w ∈ Cmp3.tab :: CodL.tab :: words, w.before a s = true := fun w hw => (List.mem_cons.mp hw).elim (fun e => e ▸ h3) fun hw => (List.mem_cons.mp hw).elim (fun e => e ▸ hc) (h w)
  have h4 : New4.tab.before a s = true := unparts (wk q3 (.code New4.yN New4.yB 6 none)) (wks q3 (.initialized New4.yN.cls :: New4.site))
  have q4 : ∀ w ∈ New4.tab :: words, w.before a s = true := fun w hw => (List.mem_cons.mp hw).elim (fun e => e ▸ h4) (h w)
  exact unparts (wk q4 (.code New1.yN New1.yB 2 none)) (wks q4 (.initialized New1.yN.cls :: New1.site))
/-- the words ride from the start Z to the walk's own state -/
theorem moved {Z s : State} {a0 args : Array Value} (hZ : Z.Warmed39 s.vm) (hw : ∀ d ∈ words, d.before a0 Z = true) : ∀ d ∈ words, d.before args s = true := fun d hd => by
  have q := hw d hd
  have t : ∀ d ∈ words, d = .arrayClass .byte ∨ (d.onTables && d.keepsFace) = true := by decide +kernel
  rcases t d hd with rfl | t
  · exact RoadKit.mvA hZ q
  · exact RoadKit.mv hZ q t
/-- WHAT COMES BACK, over the tables of the start Z: h the heap at the call, h' behind it -/
def Q (Z : State) (x : Addr) (A : Cell) (h : Heap) (v : Option Value) (h' : Heap) (L : List Loc) : Prop := v = none ∧ (∀ y ∈ L, y.base = x) ∧ RoadKit.Keep h h' [x] ∧ h'.size = h.size + 1 ∧ RoadKit.Exa Z h' x ST ∧ RoadKit.Fld Z h' x ST "value" "[B" (.ref h.size) ∧ RoadKit.Fld Z h' x ST "coder" "B" (.int 0) ∧
  (∃ V : Cell, RoadKit.Arr Z h' h.size V .byte ∧ V.vm = .none ∧ Z.vm.findClass "[B" = some V.cls ∧ V.slots.size = A.slots.size ∧ ∀ j, j < A.slots.size → V.slots[j]? = some (.int (lo8 (cv A j)))) ∧
  ∀ (O n d : String) (w : Value), RoadKit.Fld Z h x O n d w → RoadKit.slotOf Z O n d ≠ RoadKit.slotOf Z ST "value" "[B" → RoadKit.slotOf Z O n d ≠ RoadKit.slotOf Z ST "coder" "B" → RoadKit.Fld Z h' x O n d w
/-- **new String(chars) AT A CALL, IN THE ROAD'S FORM**: for specialBack behind newO: x the fresh String, b the char[] with the cell A -/
theorem back {p : Program} {l : Launch} {e : Env} {R : Room} {s : State} {args : Array Value} {below : List Frame} {len W : Nat} {Z : State} {a0 : Array Value} {h : Heap} (hZ : Z.Warmed39 s.vm) (hw : ∀ d ∈ words, d.before a0 Z = true) {kI : Nat} (wi : (Jvm.Cond.instantiable ST kI).before a0 Z = true)
    {x b : Addr} {A : Cell} {z : Int32} {v0 c0 : Value} (E : RoadKit.Exa Z h x ST) (V : RoadKit.Fld Z h x ST "value" "[B" v0) (C : RoadKit.Fld Z h x ST "coder" "B" c0) (K : RoadKit.Arr Z h b A .char) (hty : Typed .char A) (S : RoadKit.Sta Z h ST "COMPACT_STRINGS" "Z" (.int z)) (hz : ¬ z = 0)
    (l0 : 0 < A.slots.size) (l2 : A.slots.size ≤ 536870912) (hp : ∀ i, i < A.slots.size → ¬ 255 < cv A i) (hfr : 4 ≤ R.frames) (hlo : W + 65 ≤ R.locals) :
    Back l R p e below s args New1.yN len W (fun P a => a = #[.ref x, .ref b] ∧ P.U.heap = h ∧ P.cells + 1 ≤ R.cells ∧ P.slots + A.slots.size ≤ R.slots)
      (fun P _ v B => ∃ L, Q Z x A h v B.U.heap L ∧ B.locs = P.locs ++ L ∧ B.cells = P.cells + 1 ∧ B.slots = P.slots + A.slots.size) := by
  intro m meth c P g ig mk a X hg hsize hdg hW hn hp'
  obtain ⟨rfl, rfl, r1, r2⟩ := hp'
  have al : Z.vm.Alike P.U.vm := hZ.alike.trans X.warmed.alike
  obtain ⟨D, cfV, kV, iV, fV, hD, gV, stV, knV, obV, asV, slV⟩ := id V
  obtain ⟨D', cfC, kC, iC, fC, hD', gC, stC, -, -, asC, slC⟩ := id C
  cases hD.symm.trans hD'
  obtain ⟨D2, kD, e1, e2, e3, e4, e5⟩ := id E
  cases hD.symm.trans e1
  obtain ⟨c2, k2, i1, i2, i3, -⟩ := Cond.instantiable_spec wi
  cases e2.symm.trans i1
  cases e3.symm.trans i2
  obtain ⟨kU, u1, u2⟩ := al.2.2 _ _ e3
  have hB : Blank ST x D P.U := ⟨hD, ⟨knV, fun q hq => by rw [hq] at obV; cases obV⟩, by rw [al.findClass]; exact e2, kU, u1, by rw [u2]; exact i3, by rw [u2]; exact e5 i3⟩
  have F1 : Found ST "value" "[B" fV P.U := ⟨SBG.found_only al ⟨cfV, kV, iV, gV⟩, stV⟩
  have F2 : Found ST "coder" "B" fC P.U := ⟨SBG.found_only al ⟨cfC, kC, iC, gC⟩, stC⟩
  have hA : Ch b A P.U := ⟨⟨K.1, State.isArrayOf_alike al K.2.1, K.2.2, by omega⟩, hty⟩
  have hS : StaticIs P.U ST "COMPACT_STRINGS" "Z" (.int z) := by
    obtain ⟨cfS, iS, kS, fS, st, cS, t1, t2, t3, t4, t5, t6, t7⟩ := S
    exact StaticIs.there (s := { Z with heap := P.U.heap }) ⟨cfS, iS, kS, fS, st, cS, t1, t2, t3, t4, t5, (fun q => by rw [q] at t6; cases t6), t7⟩ al rfl
  obtain ⟨v, B, X', ⟨⟨hv, E', V', q1, q2, q3, q4, q5, q6, q7, q8, q9, q10, q11⟩, hl, hc, hs⟩, st⟩ := New1.pays x D fV fC b A z (tab_of (moved hZ hw)) hfr hlo m meth c P g ig mk _ X hg hsize hdg hW hn ⟨r1, r2, rfl, hB, F1, F2, hA, hS, hz, l0, l2, hp⟩
  have al' : Z.vm.Alike B.U.vm := hZ.alike.trans X'.warmed.alike
  have hsz : E'.slots.size = D.slots.size := by
    obtain ⟨-, -, -, kB, w1, w2, w3⟩ := q1
    obtain ⟨kB', y1, y2⟩ := al'.2.2 _ _ e3
    rw [q2.2.1] at w1
    cases w1.symm.trans y1
    rw [w3, e5 i3, y2]
  refine ⟨v, B, X', ⟨_, ⟨hv, ?_, ⟨by omega, fun y cy hy hn' => q10 y cy (by simpa using hn') hy, fun y cy hy => ?_⟩, q11, ⟨E', _, q1.1, by rw [q2.2.1]; exact e2, by rw [q2.2.1]; exact e3, by rw [q2.1]; exact obV, fun _ => by rw [hsz]; exact e5 i3⟩,
    ⟨E', cfV, kV, iV, fV, q1.1, gV, stV, by rw [q2.1]; exact knV, by rw [q2.1]; exact obV, by rw [q2.2.1]; exact asV, q3⟩, ⟨E', cfC, kC, iC, fC, q1.1, gC, stC, by rw [q2.1]; exact knV, by rw [q2.1]; exact obV, by rw [q2.2.1]; exact asC, q4⟩,
    ⟨V', ⟨q5.1, State.isArrayOf_alike al'.symm q5.2.1, q5.2.2.1⟩, q6, by rw [← al'.findClass]; exact q7, q8, fun j hj => by have := q9 j hj; rwa [Nat.zero_add] at this⟩, fun O n d w F n1 n2 => ?_⟩, hl, hc, hs⟩, st⟩
  · intro y hy
    simp only [List.mem_cons, List.not_mem_nil, or_false] at hy
    rcases hy with rfl | rfl <;> rfl
  · by_cases q : y = x
    · subst q
      cases hD.symm.trans hy
      exact ⟨E', q1.1, q2.2.1, q2.1, hsz⟩
    · exact ⟨cy, q10 y cy q hy, rfl, rfl, rfl⟩
  · obtain ⟨D3, cf, k, i, f, g1, g2, g3, g4, g5, g6, g7⟩ := F
    cases hD.symm.trans g1
    simp only [RoadKit.slotOf, g2, gV, gC, Option.map_some, Option.getD_some] at n1 n2
    exact ⟨E', cf, k, i, f, q1.1, g2, g3, by rw [q2.1]; exact g4, by rw [q2.1]; exact g5, by rw [q2.2.1]; exact g6, by rw [q2.2.2 f.slot (by simp [n1, n2])]; exact g7⟩
end StrChars.Road
namespace StrChars.Road
open Jvm Sem ClassFile Op Lib Jvm.Stand Jvm.Free Jvm.Free.XT
/-- WHAT COMES BACK, the byte[] as a list of values -/
def QA (Z : State) (x : Addr) (zn : Int32) (cs : List Int32) (h : Heap) (v : Option Value) (h' : Heap) (L : List Loc) : Prop := v = none ∧ (∀ y ∈ L, y.base = x) ∧ RoadKit.Keep h h' [x] ∧ h'.size = h.size + 1 ∧ RoadKit.Exa Z h' x ST ∧ RoadKit.Fld Z h' x ST "value" "[B" (.ref h.size) ∧ RoadKit.Fld Z h' x ST "coder" "B" (.int 0) ∧
  (∃ kb, Z.vm.findClass "[B" = some kb ∧ RoadKit.Arv Z h' h.size kb .byte zn (cs.map fun c => .int (lo8 c)) (.int 0)) ∧
  ∀ (O n d : String) (w : Value), RoadKit.Fld Z h x O n d w → RoadKit.slotOf Z O n d ≠ RoadKit.slotOf Z ST "value" "[B" → RoadKit.slotOf Z O n d ≠ RoadKit.slotOf Z ST "coder" "B" → RoadKit.Fld Z h' x O n d w
/-- **new String(chars) AT A CALL, THE ARRAYS AS LISTS**: the char[] at b holds cs, not empty, no char above 255 -/
theorem backArv {p : Program} {l : Launch} {e : Env} {R : Room} {s : State} {args : Array Value} {below : List Frame} {len W : Nat} {Z : State} {a0 : Array Value} {h : Heap} (hZ : Z.Warmed39 s.vm) (hw : ∀ d ∈ words, d.before a0 Z = true) {kI : Nat} (wi : (Jvm.Cond.instantiable ST kI).before a0 Z = true)
    {x b : Addr} {k : ClassId} {zn z : Int32} {cs : List Int32} {dv v0 c0 : Value} (E : RoadKit.Exa Z h x ST) (V : RoadKit.Fld Z h x ST "value" "[B" v0) (C : RoadKit.Fld Z h x ST "coder" "B" c0) (K : RoadKit.Arv Z h b k .char zn (cs.map Value.int) dv) (S : RoadKit.Sta Z h ST "COMPACT_STRINGS" "Z" (.int z)) (hz : ¬ z = 0)
    (hlen : zn.toNatClampNeg = cs.length) (h0 : 0 < cs.length) (hbig : cs.length ≤ 536870912) (hall : ∀ c ∈ cs, ¬ 255 < c) (hfr : 4 ≤ R.frames) (hlo : W + 65 ≤ R.locals) :
    Back l R p e below s args New1.yN len W (fun P a => a = #[.ref x, .ref b] ∧ P.U.heap = h ∧ P.cells + 1 ≤ R.cells ∧ P.slots + cs.length ≤ R.slots)
      (fun P _ v B => ∃ L, QA Z x zn cs h v B.U.heap L ∧ B.locs = P.locs ++ L ∧ B.cells = P.cells + 1 ∧ B.slots = P.slots + cs.length) := by
  obtain ⟨A, K1, K2, K3, K4, K5, K6⟩ := K
  have e : A.slots.size = cs.length := K3.trans hlen
  have hat : ∀ (i : Nat) (hi : i < cs.length), A.slots[i]? = some (.int cs[i]) := fun i hi => by rw [K5 i (by omega)]; simp [List.getD_eq_getElem?_getD, hi]
  have hcv : ∀ (i : Nat) (hi : i < cs.length), cv A i = cs[i] := fun i hi => by unfold cv; rw [hat i hi]
  have hty : Typed .char A := fun i v hv => by
    have hi : i < A.slots.size := (Array.getElem?_eq_some_iff.mp hv).1
    have q := K5 i hi
    rw [hv] at q
    rw [Option.some.inj q]
    exact K6 i hi
  refine Back.mono (back hZ hw wi E V C K1 hty S hz (by omega) (by omega) (fun i hi => by rw [hcv i (by omega)]; exact hall _ (List.getElem_mem _)) hfr hlo) (fun P a hp => ⟨hp.1, hp.2.1, hp.2.2.1, by rw [e]; exact hp.2.2.2⟩) (fun P a v B hp hq => ?_)
  obtain ⟨L, ⟨q1, q2, q3, q4, q5, q6, q7, ⟨V', v1, v2, v3, v4, v5⟩, q9⟩, hl, hc, hs⟩ := hq
  refine ⟨L, ⟨q1, q2, q3, q4, q5, q6, q7, ⟨V'.cls, v3, V', v1, rfl, by rw [v4, e, hlen], K4, fun i hi => ?_, fun i hi => ?_⟩, q9⟩, hl, hc, by rw [hs, e]⟩
  · have hi' : i < cs.length := by omega
    rw [v5 i (by omega), hcv i hi']; simp [List.getD_eq_getElem?_getD, hi']
  · have hi' : i < cs.length := by omega
    simp only [List.getD_eq_getElem?_getD, List.getElem?_map, List.getElem?_eq_getElem hi', Option.map_some, Option.getD_some]
    exact fits_lo8 _
end StrChars.Road
namespace StrChars.Road
open Jvm Sem ClassFile Op Lib Jvm.Stand Jvm.Free Jvm.Free.XT
/-- WHAT COMES BACK, in the writer's own shape -/
def QV (Z : State) (x : Addr) (N : Int32) (bs : List Int32) (h : Heap) (n0 : Nat) (v : Option Value) (h' : Heap) (L : List Loc) : Prop := v = none ∧ RoadKit.Fr n0 L ∧ RoadKit.Keep h h' [x] ∧ RoadKit.Exa Z h' x ST ∧ RoadKit.Fld Z h' x ST "coder" "B" (.int 0) ∧
  ∃ (t : Addr) (kb : ClassId), n0 ≤ t ∧ h.size ≤ t ∧ ¬ t = x ∧ RoadKit.Fld Z h' x ST "value" "[B" (.ref t) ∧ RoadKit.Arv Z h' t kb .byte N (bs.map Value.int) (.int 0)
/-- **new String(chars) AT A CALL, FOR THE WRITER**: a char[] of n known ints, each 0 to 255 -/
theorem backV {p : Program} {l : Launch} {e : Env} {R : Room} {s : State} {args : Array Value} {below : List Frame} {len W : Nat} {Z : State} {a0 : Array Value} {h : Heap} (hZ : Z.Warmed39 s.vm) (hw : ∀ d ∈ words, d.before a0 Z = true) {kI : Nat} (wi : (Jvm.Cond.instantiable ST kI).before a0 Z = true)
    {x b : Addr} {kC : ClassId} {cs bs : List Int32} {d v0 c0 : Value} {z N : Int32} {n n0 : Nat} (hx0 : n0 ≤ x) (hh0 : n0 ≤ h.size) (E : RoadKit.Exa Z h x ST) (V : RoadKit.Fld Z h x ST "value" "[B" v0) (C : RoadKit.Fld Z h x ST "coder" "B" c0) (K : RoadKit.Arv Z h b kC .char N (cs.map Value.int) d) (S : RoadKit.Sta Z h ST "COMPACT_STRINGS" "Z" (.int z)) (hz : ¬ z = 0)
    (hn : cs.length = n) (hN : N = Int32.ofNat n) (l0 : 0 < n) (l2 : n ≤ 4000) (hp : ∀ c ∈ cs, ¬ c < 0 ∧ ¬ (255 : Int32) < c) (hb : bs = cs.map (fun c => c.toInt8.toInt32)) (hfr : 4 ≤ R.frames) (hlo : W + 65 ≤ R.locals) :
    Back l R p e below s args (⟨"java/lang/String", "<init>", "([C)V"⟩ : MethodName) len W (fun P a => a = #[.ref x, .ref b] ∧ P.U.heap = h ∧ P.cells + 1 ≤ R.cells ∧ P.slots + n ≤ R.slots)
      (fun P _ v B => ∃ L, QV Z x N bs h n0 v B.U.heap L ∧ B.locs = P.locs ++ L ∧ B.cells = P.cells + 1 ∧ B.slots = P.slots + n) := by
  subst hn hN hb
  refine Back.mono (backArv hZ hw wi E V C K S hz (n32 (by omega)) l0 (by omega) (fun c hc => (hp c hc).2) hfr hlo) (fun P a hp => hp) (fun P a v B hp hq => ?_)
  obtain ⟨L, ⟨q1, q2, q3, q4, q5, q6, q7, ⟨kb, v1, v2⟩, q9⟩, hl, hc, hs⟩ := hq
  exact ⟨L, ⟨q1, fun y hy => by rw [q2 y hy]; exact hx0, q3, q5, q7, h.size, kb, hh0, Nat.le_refl _, Nat.ne_of_gt E.lt, q6, by rw [List.map_map]; exact v2⟩, hl, hc, hs⟩
end StrChars.Road
namespace StrChars
open Jvm Sem ClassFile Op Lib Jvm.Stand Jvm.Free.XT Jvm.Free.ALB Jvm.Free.JM Jvm.Free
open Jvm.Lib.Cold (StaticIs)
def hi8 (x : Int32) : Int32 := lo8 (x >>> ((8 : Int32) &&& 31))
/-- what StringUTF16.getChar makes of two bytes -/
def pairCh (u v : Int32) : Int32 := (((u &&& 255) <<< ((0 : Int32) &&& 31)) ||| ((v &&& 255) <<< ((8 : Int32) &&& 31))).toUInt32.toUInt16.toUInt32.toInt32
theorem shr0 (c : Int32) : c >>> ((0 : Int32) &&& 31) = c := by
  have e : ((0 : Int32) &&& 31) = 0 := by decide
  rw [e]
  apply Int32.toBitVec_inj.mp
  rw [Int32.toBitVec_shiftRight]
  have e1 : ((0 : Int32).toBitVec.smod 32) = 0#32 := by decide
  rw [e1, BitVec.sshiftRight_eq']
  exact BitVec.sshiftRight_zero
theorem lo8_and (x : Int32) : (lo8 x &&& 255).toBitVec.toNat = x.toBitVec.toNat % 256 := by
  have h : (lo8 x).toBitVec = (x.toBitVec.signExtend 8).signExtend 32 := by rw [lo8, Int8.toBitVec_toInt32, Int32.toBitVec_toInt8]
  rw [Int32.toBitVec_and, BitVec.toNat_and, h]
  have e : ((x.toBitVec.signExtend 8).signExtend 32).toNat % 256 = x.toBitVec.toNat % 256 := by
    rw [BitVec.toNat_signExtend]
    have hlt := x.toBitVec.isLt
    simp only [BitVec.toNat_setWidth, BitVec.toNat_signExtend]
    split <;> split <;> omega
  rw [← e]
  exact Nat.and_two_pow_sub_one_eq_mod _ 8
theorem pair_says {c : Int32} (h0 : ¬ c < 0) (h1 : ¬ 65535 < c) : pairCh (lo8 c) (hi8 c) = c := by
  rw [Int32.lt_iff_toInt_lt] at h0 h1
  have e0 : (0 : Int32).toInt = 0 := rfl
  have e1 : (65535 : Int32).toInt = 65535 := rfl
  have hc : c.toInt = c.toBitVec.toNat := by
    have := c.toBitVec.isLt
    have e : c.toInt = c.toBitVec.toInt := rfl
    rw [e] at h0 h1
    rw [e]
    rw [BitVec.toInt_eq_toNat_cond] at h0 h1 ⊢
    split at h0 <;> split <;> omega
  have hn : c.toBitVec.toNat < 65536 := by omega
  have a1 := lo8_and c
  have a2 : (hi8 c &&& 255).toBitVec.toNat = c.toBitVec.toNat / 256 := by
    rw [hi8, lo8_and]
    have e : ((8 : Int32) &&& 31) = 8 := by decide
    rw [e, Int32.toBitVec_shiftRight]
    have e2 : ((8 : Int32).toBitVec.smod 32) = 8#32 := by decide
    rw [e2, BitVec.sshiftRight_eq', BitVec.toNat_sshiftRight_of_msb_false (by rw [BitVec.msb_eq_false_iff_two_mul_lt]; omega)]
    show c.toBitVec.toNat >>> 8 % 256 = _
    rw [Nat.shiftRight_eq_div_pow]
    omega
  unfold pairCh
  apply Int32.toBitVec_inj.mp
  apply BitVec.eq_of_toNat_eq
  have f0 : ((0 : Int32) &&& 31) = 0 := by decide
  have f8 : ((8 : Int32) &&& 31) = 8 := by decide
  rw [f0, f8]
  have g : (((lo8 c &&& 255) <<< (0 : Int32)) ||| ((hi8 c &&& 255) <<< (8 : Int32))).toBitVec.toNat = c.toBitVec.toNat := by
    rw [Int32.toBitVec_or, Int32.toBitVec_shiftLeft, Int32.toBitVec_shiftLeft]
    have s0 : ((0 : Int32).toBitVec.smod 32) = 0#32 := by decide
    have s8 : ((8 : Int32).toBitVec.smod 32) = 8#32 := by decide
    rw [s0, s8, BitVec.toNat_or]
    simp only [BitVec.shiftLeft_eq', BitVec.toNat_shiftLeft, a1, a2]
    show (c.toBitVec.toNat % 256) <<< 0 % 2 ^ 32 ||| (c.toBitVec.toNat / 256) <<< 8 % 2 ^ 32 = _
    rw [Nat.shiftLeft_zero, Nat.mod_eq_of_lt (show c.toBitVec.toNat % 256 < 2 ^ 32 by omega), Nat.mod_eq_of_lt (show (c.toBitVec.toNat / 256) <<< 8 < 2 ^ 32 by rw [Nat.shiftLeft_eq]; omega), Nat.or_comm, ← Nat.shiftLeft_add_eq_or_of_lt (by omega), Nat.shiftLeft_eq]
    omega
  show BitVec.toNat (((((lo8 c &&& 255) <<< (0 : Int32)) ||| ((hi8 c &&& 255) <<< (8 : Int32))).toBitVec.setWidth 16).setWidth 32) = _
  rw [BitVec.toNat_setWidth, BitVec.toNat_setWidth, g]
  omega
end StrChars
namespace StrChars
open Jvm Sem ClassFile Op Lib Jvm.Stand Jvm.Free.XT Jvm.Free.ALB Jvm.Free.JM Jvm.Free
open Jvm.Lib.Cold (StaticIs)
theorem shr1 {n : Nat} (h : 2 * n < 2 ^ 31) : Int32.ofNat (2 * n) >>> ((1 : Int32) &&& 31) = Int32.ofNat n := by
  have e : ((1 : Int32) &&& 31) = 1 := by decide
  rw [e]
  apply Int32.toBitVec_inj.mp
  rw [Int32.toBitVec_shiftRight]
  have e1 : ((1 : Int32).toBitVec.smod 32) = 1#32 := by decide
  have hm : (BitVec.ofNat 32 (2 * n)).toNat = 2 * n := by rw [BitVec.toNat_ofNat, Nat.mod_eq_of_lt (by omega)]
  rw [e1, BitVec.sshiftRight_eq']
  apply BitVec.eq_of_toNat_eq
  show ((BitVec.ofNat 32 (2 * n)).sshiftRight 1).toNat = (BitVec.ofNat 32 n).toNat
  rw [BitVec.toNat_sshiftRight_of_msb_false (by rw [BitVec.msb_eq_false_iff_two_mul_lt, hm]; omega), hm, BitVec.toNat_ofNat, Nat.shiftRight_eq_div_pow]
  omega
/-- charAt's cast of a byte read back -/
def chr8 (u : Int32) : Int32 := (u &&& 255).toUInt32.toUInt16.toUInt32.toInt32
theorem chr8_lo8 {c : Int32} (h0 : ¬ c < 0) (h1 : ¬ 255 < c) : chr8 (lo8 c) = c := by
  have t : ∀ k : Fin 256, (Int32.ofNat k.val).toUInt32.toUInt16.toUInt32.toInt32 = Int32.ofNat k.val := by decide +kernel
  unfold chr8
  rw [lo8_mask h0 h1]
  rw [Int32.lt_iff_toInt_lt] at h0 h1
  have e0 : (0 : Int32).toInt = 0 := rfl
  have e1 : (255 : Int32).toInt = 255 := rfl
  obtain ⟨k, hk⟩ : ∃ k : Nat, c.toInt = k := ⟨c.toInt.toNat, by omega⟩
  have hx : c = Int32.ofNat k := Int32.toInt_inj.mp (by rw [hk, Int32.toInt_ofNat_small (by omega)])
  rw [hx]
  exact t ⟨k, by omega⟩
theorem narrow_ch {c : Int32} (h0 : ¬ c < 0) (h1 : ¬ 65535 < c) : narrow .char (.int c) = .int c := by
  have q : narrow .char (.int (pairCh (lo8 c) (hi8 c))) = .int (pairCh (lo8 c) (hi8 c)) := narrow_c _
  rwa [pair_says h0 h1] at q
/-- the array's cell V codes the n chars f 0 .. f (n - 1) by the coder cd, as the JDK does: coder 1 just where some char is above 255 -/
def Cod (cd : Int32) (n : Nat) (f : Nat → Int32) (V : Cell) : Prop := (cd = 0 ∧ V.slots.size = n ∧ ∀ j, j < n → V.slots[j]? = some (.int (lo8 (f j))) ∧ ¬ 255 < f j) ∨ (cd = 1 ∧ V.slots.size = 2 * n ∧ (∀ j, j < n → V.slots[2 * j]? = some (.int (lo8 (f j))) ∧ V.slots[2 * j + 1]? = some (.int (hi8 (f j)))) ∧ ∃ j, j < n ∧ 255 < f j)
theorem Cod.cd {cd : Int32} {n : Nat} {f : Nat → Int32} {V : Cell} (h : Cod cd n f V) : cd = 0 ∨ cd = 1 := h.imp (fun q => q.1) fun q => q.1
theorem Cod.len {cd : Int32} {n : Nat} {f : Nat → Int32} {V : Cell} (h : Cod cd n f V) (hs : V.slots.size < 2 ^ 31) : Int32.ofNat V.slots.size >>> (cd &&& 31) = Int32.ofNat n := by
  rcases h with ⟨rfl, h, -⟩ | ⟨rfl, h, -⟩
  · rw [shr0, h]
  · rw [h, shr1 (by omega)]
/-- **x is a String of the n chars f 0 .. f (n - 1)**, Latin-1 or UTF-16; its array at t has the cell V -/
def Txt (x t : Addr) (V : Cell) (cd : Int32) (n : Nat) (f : Nat → Int32) (U : State) : Prop := Exact "java/lang/String" x U ∧ Has x "java/lang/String" "value" "[B" (.ref t) U ∧ Has x "java/lang/String" "coder" "B" (.int cd) U ∧ XT.Arr .byte t V U ∧ Cod cd n f V ∧ ∀ j, j < n → ¬ f j < 0 ∧ ¬ 65535 < f j
theorem Txt.mv {x t : Addr} {V : Cell} {cd : Int32} {n : Nat} {f : Nat → Int32} {U U' : State} (h : Txt x t V cd n f U) (hal : U.vm.Alike U'.vm) (hh : U'.heap = U.heap) : Txt x t V cd n f U' := ⟨h.1.mv hal hh, h.2.1.mv hal hh, h.2.2.1.mv hal hh, h.2.2.2.1.mv hal hh, h.2.2.2.2⟩
namespace Cdr
def yN : MethodName := ⟨"java/lang/String", "coder", "()B"⟩
abbrev yB : ByteArray := jdk_42_method_152_code
theorem d0 : decode yB 0 = .ok (.getstatic 38, 3) := by decide +kernel
theorem d3 : decode yB 3 = .ok (.ifCond (.eq) 10, 3) := by decide +kernel
theorem d6 : decode yB 6 = .ok (.aload_n 0, 1) := by decide +kernel
theorem d7 : decode yB 7 = .ok (.getfield 15, 3) := by decide +kernel
theorem d10 : decode yB 10 = .ok (.goto 4, 3) := by decide +kernel
theorem d14 : decode yB 14 = .ok (.ireturn, 1) := by decide +kernel
def site : List Cond := [.fieldLink "java/lang/String" 38 "java/lang/String" "COMPACT_STRINGS" "Z", .fieldLink "java/lang/String" 15 "java/lang/String" "coder" "B"]
def tab : Cond := tabOf yN yB 1 (some .byte) site
def P (x : Addr) (cd z : Int32) (args : Array Value) (s : State) : Prop := args = #[.ref x] ∧ Has x "java/lang/String" "coder" "B" (.int cd) s ∧ (cd = 0 ∨ cd = 1) ∧ StaticIs s "java/lang/String" "COMPACT_STRINGS" "Z" (.int z) ∧ ¬ z = 0
def E (cd : Int32) (r : Option Value) (s u : State) : Prop := XT.PureE (some (.int cd)) r s u
theorem law (l : Launch) (x : Addr) (cd z : Int32) : Law l yN 1 0 0 0 yB 1 (some .byte) site (P x cd z) (E cd) [] 0 0 := by
  refine Law.of_walk (plainFor_of_name (by decide +kernel)) (by decide +kernel) (by decide +kernel) (by decide) (fun _ _ h => by rw [h.1]; rfl) (fun _ U U' hal hh h => ⟨h.1, h.2.1.mv hal hh, h.2.2.1, h.2.2.2.1.there hal hh, h.2.2.2.2⟩) (fun r U U' V V' h1 hal h2 h => XT.PureE.mv r U U' V V' h1 hal h2 h) ?_
  intro p e s m args below meth c s₁ X0 hexec hbytes hml hret hlk hnm hown hh0 W hP
  obtain ⟨rfl, hx, hc, s1, hz⟩ := hP
  have c1 : Steps p.tables e below (s₁.setTop (entryFrame m #[.ref x] 1)) (s₁.setTop (mkF m 0 #[.val (.ref x)] [])) := entry rfl
  obtain ⟨T2, X2, q2, st2⟩ := X0.sget hexec hown (wk W (.fieldLink "java/lang/String" 38 "java/lang/String" "COMPACT_STRINGS" "Z")) s1 (fun _ _ h => by rw [hh0]; exact h) (g := (mkF m 0 #[.val (.ref x)] [])) rfl (hb hbytes d0)
  have hh2 := q2.trans hh0
  have c3 : Steps p.tables e below (s₁.setTop (entryFrame m #[.ref x] 1)) (T2.setTop (mkF m 7 #[.val (.ref x)] [.ref x])) := (c1.trans (st2 _ (Steps.refl _))).trans (by
    refine XS.ifNo X2.here hexec rfl (hb hbytes d3) rfl (i0_eq_f hz) ?_
    refine XS.aloadN X2.here hexec rfl (hb hbytes d6) rfl rfl ?_
    exact Steps.refl _)
  obtain ⟨T4, X4, q4, st4⟩ := X2.hget hexec hown (wk W (.fieldLink "java/lang/String" 15 "java/lang/String" "coder" "B")) (hx.mv X2.warmed.alike hh2) (g := (mkF m 7 #[.val (.ref x)] [.ref x])) rfl (rest := []) rfl (hb hbytes d7)
  have c5 : Steps p.tables e below (s₁.setTop (entryFrame m #[.ref x] 1)) (T4.setTop (mkF m 14 #[.val (.ref x)] [.int cd])) := (c3.trans (st4 _ (Steps.refl _))).trans (by
    refine XS.goto X4.here hexec rfl (pc0 := 10) rfl (hb hbytes d10) (by decide) rfl ?_
    exact Steps.refl _)
  exact ⟨T4, some (.int cd), _, _, _, X4, rfl, rfl, rfl, (fun h => by cases h), ⟨rfl, q4.trans hh2⟩, fun fs hl => c5.trans (X4.ireturnOut hexec hret (by rcases hc with rfl | rfl <;> rfl) (Or.inr (Or.inr (Or.inl rfl))) (hb hbytes d14) hl)⟩
end Cdr
namespace Len
def yN : MethodName := ⟨"java/lang/String", "length", "()I"⟩
abbrev yB : ByteArray := jdk_42_method_54_code
theorem d0 : decode yB 0 = .ok (.aload_n 0, 1) := by decide +kernel
theorem d1 : decode yB 1 = .ok (.getfield 9, 3) := by decide +kernel
theorem d4 : decode yB 4 = .ok (.arraylength, 1) := by decide +kernel
theorem d5 : decode yB 5 = .ok (.aload_n 0, 1) := by decide +kernel
theorem d6 : decode yB 6 = .ok (.invokevirtual 335, 3) := by decide +kernel
theorem d9 : decode yB 9 = .ok (.ishr, 1) := by decide +kernel
theorem d10 : decode yB 10 = .ok (.ireturn, 1) := by decide +kernel
def site : List Cond := [.fieldLink "java/lang/String" 9 "java/lang/String" "value" "[B", Cdr.tab] ++ virtW "java/lang/String" 335 "java/lang/String" Cdr.yN Cdr.yN
def tab : Cond := tabOf yN yB 1 (some .int) site
def P (x t : Addr) (V : Cell) (cd : Int32) (n : Nat) (f : Nat → Int32) (z : Int32) (args : Array Value) (s : State) : Prop := args = #[.ref x] ∧ Txt x t V cd n f s ∧ StaticIs s "java/lang/String" "COMPACT_STRINGS" "Z" (.int z) ∧ ¬ z = 0
def E (n : Nat) (r : Option Value) (s u : State) : Prop := XT.PureE (some (.int (Int32.ofNat n))) r s u
/-- length() of a String of n chars, in either coding -/
theorem law (l : Launch) (x t : Addr) (V : Cell) (cd : Int32) (n : Nat) (f : Nat → Int32) (z : Int32) : Law l yN 1 0 1 13 yB 1 (some .int) site (P x t V cd n f z) (E n) [] 0 0 := by
  refine Law.of_walk (plainFor_of_name (by decide +kernel)) (by decide +kernel) (by decide +kernel) (by decide) (fun _ _ h => by rw [h.1]; rfl) (fun _ U U' hal hh h => ⟨h.1, h.2.1.mv hal hh, h.2.2.1.there hal hh, h.2.2.2⟩) (fun r U U' V V' h1 hal h2 h => XT.PureE.mv r U U' V V' h1 hal h2 h) ?_
  intro p e s m args below meth c s₁ X0 hexec hbytes hml hret hlk hnm hown hh0 W hP
  obtain ⟨rfl, hx, s1, hz⟩ := hP
  have v31 := hx.2.2.2.1.2.2.2
  have c1 : Steps p.tables e below (s₁.setTop (entryFrame m #[.ref x] 1)) (s₁.setTop (mkF m 1 #[.val (.ref x)] [.ref x])) := Steps.trans (entry rfl) (by
    show Steps p.tables e below (s₁.setTop (mkF m 0 #[.val (.ref x)] [])) _
    refine XS.aloadN X0.here hexec rfl (hb hbytes d0) rfl rfl ?_
    exact Steps.refl _)
  obtain ⟨T2, X2, q2, st2⟩ := X0.hget hexec hown (wk W (.fieldLink "java/lang/String" 9 "java/lang/String" "value" "[B")) (hx.mv X0.warmed.alike hh0).2.1 (g := (mkF m 1 #[.val (.ref x)] [.ref x])) rfl (rest := []) rfl (hb hbytes d1)
  have hh2 := q2.trans hh0
  have hx2 := hx.mv X2.warmed.alike hh2
  have c3 : Steps p.tables e below (s₁.setTop (entryFrame m #[.ref x] 1)) (T2.setTop (mkF m 6 #[.val (.ref x)] [.ref x, .int (Int32.ofNat V.slots.size)])) := (c1.trans (st2 _ (Steps.refl _))).trans (by
    refine X2.alen hexec hx2.2.2.2.1 rfl rfl (hb hbytes d4) ?_
    refine XS.aloadN X2.here hexec rfl (hb hbytes d5) rfl rfl ?_
    exact Steps.refl _)
  obtain ⟨v4, T4, X4, E4, g4⟩ := X2.callV hexec (Cdr.law l x cd z) hown (wks W (virtW "java/lang/String" 335 "java/lang/String" Cdr.yN Cdr.yN)) rfl (by decide) (wk W Cdr.tab) (W := 1) (Nat.le_of_ble_eq_true rfl) (Nat.le_of_ble_eq_true rfl) (Nat.le_refl _) (Nat.le_refl _) (hx2.1.fc X2.warmed.alike) hx2.1.is (g := (mkF m 6 #[.val (.ref x)] [.ref x, .int (Int32.ofNat V.slots.size)])) rfl (by rw [hml]; rfl) c3 (argsL := []) (rest := [.int (Int32.ofNat V.slots.size)]) rfl rfl (by show 2 * 0 + (1 + 0) ≤ _; decide) (hb hbytes d6) (⟨rfl, hx2.2.2.1, hx.2.2.2.2.1.cd, s1.there X2.warmed.alike hh2, hz⟩)
  obtain ⟨rfl, q4⟩ := E4
  have c5 : Steps p.tables e below (s₁.setTop (entryFrame m #[.ref x] 1)) (T4.setTop (mkF m 10 #[.val (.ref x)] [.int (Int32.ofNat V.slots.size >>> (cd &&& 31))])) := Steps.trans g4 (by
    refine ishr X4.here hexec rfl (hb hbytes d9) rfl ?_
    exact Steps.refl _)
  rw [hx.2.2.2.2.1.len v31] at c5
  exact ⟨T4, some (.int (Int32.ofNat n)), _, _, _, X4, rfl, rfl, rfl, (fun h => by cases h), ⟨rfl, q4.trans hh2⟩, fun fs hl => c5.trans (X4.ireturnOut hexec hret rfl (Or.inl rfl) (hb hbytes d10) hl)⟩
theorem pays {l : Launch} {R : Room} {p : Program} {e : Env} {below : List Frame} {s : State} {sargs : Array Value} {len W : Nat} (x t : Addr) (V : Cell) (cd : Int32) (n : Nat) (f : Nat → Int32) (z : Int32) (htab : tab.before sargs s = true) (hfr : 2 ≤ R.frames) (hlo : W + 25 ≤ R.locals) :
    Back l R p e below s sargs yN len W (fun A₁ a₁ => A₁.cells + 0 ≤ R.cells ∧ A₁.slots + 0 ≤ R.slots ∧ P x t V cd n f z a₁ A₁.U) (fun A₁ _ v₁ B₁ => E n v₁ A₁.U B₁.U ∧ B₁.locs = A₁.locs ++ [] ∧ B₁.cells = A₁.cells + 0 ∧ B₁.slots = A₁.slots + 0) :=
  (law l x t V cd n f z).pays htab hfr (by omega)
end Len
namespace IsL
def yN : MethodName := ⟨"java/lang/String", "isLatin1", "()Z"⟩
abbrev yB : ByteArray := jdk_42_method_154_code
theorem d0 : decode yB 0 = .ok (.getstatic 38, 3) := by decide +kernel
theorem d3 : decode yB 3 = .ok (.ifCond (.eq) 14, 3) := by decide +kernel
theorem d6 : decode yB 6 = .ok (.aload_n 0, 1) := by decide +kernel
theorem d7 : decode yB 7 = .ok (.getfield 15, 3) := by decide +kernel
theorem d10 : decode yB 10 = .ok (.ifCond (.ne) 7, 3) := by decide +kernel
theorem d13 : decode yB 13 = .ok (.iconst 1, 1) := by decide +kernel
theorem d14 : decode yB 14 = .ok (.goto 4, 3) := by decide +kernel
theorem d17 : decode yB 17 = .ok (.iconst 0, 1) := by decide +kernel
theorem d18 : decode yB 18 = .ok (.ireturn, 1) := by decide +kernel
def site : List Cond := [.fieldLink "java/lang/String" 38 "java/lang/String" "COMPACT_STRINGS" "Z", .fieldLink "java/lang/String" 15 "java/lang/String" "coder" "B"]
def tab : Cond := tabOf yN yB 1 (some .boolean) site
def P (x : Addr) (cd z : Int32) (args : Array Value) (s : State) : Prop := args = #[.ref x] ∧ Has x "java/lang/String" "coder" "B" (.int cd) s ∧ (cd = 0 ∨ cd = 1) ∧ StaticIs s "java/lang/String" "COMPACT_STRINGS" "Z" (.int z) ∧ ¬ z = 0
def E (cd : Int32) (r : Option Value) (s u : State) : Prop := XT.PureE (some (.int (1 - cd))) r s u
theorem law (l : Launch) (x : Addr) (cd z : Int32) : Law l yN 1 0 0 0 yB 1 (some .boolean) site (P x cd z) (E cd) [] 0 0 := by
  refine Law.of_walk (plainFor_of_name (by decide +kernel)) (by decide +kernel) (by decide +kernel) (by decide) (fun _ _ h => by rw [h.1]; rfl) (fun _ U U' hal hh h => ⟨h.1, h.2.1.mv hal hh, h.2.2.1, h.2.2.2.1.there hal hh, h.2.2.2.2⟩) (fun r U U' V V' h1 hal h2 h => XT.PureE.mv r U U' V V' h1 hal h2 h) ?_
  intro p e s m args below meth c s₁ X0 hexec hbytes hml hret hlk hnm hown hh0 W hP
  obtain ⟨rfl, hx, hc, s1, hz⟩ := hP
  have c1 : Steps p.tables e below (s₁.setTop (entryFrame m #[.ref x] 1)) (s₁.setTop (mkF m 0 #[.val (.ref x)] [])) := entry rfl
  obtain ⟨T2, X2, q2, st2⟩ := X0.sget hexec hown (wk W (.fieldLink "java/lang/String" 38 "java/lang/String" "COMPACT_STRINGS" "Z")) s1 (fun _ _ h => by rw [hh0]; exact h) (g := (mkF m 0 #[.val (.ref x)] [])) rfl (hb hbytes d0)
  have hh2 := q2.trans hh0
  have c3 : Steps p.tables e below (s₁.setTop (entryFrame m #[.ref x] 1)) (T2.setTop (mkF m 7 #[.val (.ref x)] [.ref x])) := (c1.trans (st2 _ (Steps.refl _))).trans (by
    refine XS.ifNo X2.here hexec rfl (hb hbytes d3) rfl (i0_eq_f hz) ?_
    refine XS.aloadN X2.here hexec rfl (hb hbytes d6) rfl rfl ?_
    exact Steps.refl _)
  obtain ⟨T4, X4, q4, st4⟩ := X2.hget hexec hown (wk W (.fieldLink "java/lang/String" 15 "java/lang/String" "coder" "B")) (hx.mv X2.warmed.alike hh2) (g := (mkF m 7 #[.val (.ref x)] [.ref x])) rfl (rest := []) rfl (hb hbytes d7)
  have c5 : Steps p.tables e below (s₁.setTop (entryFrame m #[.ref x] 1)) (T4.setTop (mkF m 10 #[.val (.ref x)] [.int cd])) := c3.trans (st4 _ (Steps.refl _))
  have c6 : Steps p.tables e below (s₁.setTop (entryFrame m #[.ref x] 1)) (T4.setTop (mkF m 18 #[.val (.ref x)] [.int (1 - cd)])) := by
    rcases hc with rfl | rfl
    · exact c5.trans (by
        refine XS.ifNo X4.here hexec rfl (hb hbytes d10) rfl (i0_ne_f rfl) ?_
        refine iconstV X4.here hexec rfl 1 (hb hbytes d13) (by decide) ?_
        refine XS.goto X4.here hexec rfl (pc0 := 14) rfl (hb hbytes d14) (by decide) rfl ?_
        exact Steps.refl _)
    · exact c5.trans (by
        refine XS.ifYes X4.here hexec rfl (pc0 := 10) rfl (hb hbytes d10) rfl (i0_ne_t (by decide)) (by decide) rfl ?_
        refine iconstV X4.here hexec rfl 0 (hb hbytes d17) (by decide) ?_
        exact Steps.refl _)
  exact ⟨T4, some (.int (1 - cd)), _, _, _, X4, rfl, rfl, rfl, (fun h => by cases h), ⟨rfl, q4.trans hh2⟩, fun fs hl => c6.trans (X4.ireturnOut hexec hret (by rcases hc with rfl | rfl <;> rfl) (Or.inr (Or.inl rfl)) (hb hbytes d18) hl)⟩
end IsL
namespace LChA
def yN : MethodName := ⟨"java/lang/StringLatin1", "charAt", "([BI)C"⟩
abbrev yB : ByteArray := jdk_43_method_2_code
theorem d0 : decode yB 0 = .ok (.iload_n 1, 1) := by decide +kernel
theorem d1 : decode yB 1 = .ok (.aload_n 0, 1) := by decide +kernel
theorem d2 : decode yB 2 = .ok (.arraylength, 1) := by decide +kernel
theorem d3 : decode yB 3 = .ok (.invokestatic 9, 3) := by decide +kernel
theorem d6 : decode yB 6 = .ok (.aload_n 0, 1) := by decide +kernel
theorem d7 : decode yB 7 = .ok (.iload_n 1, 1) := by decide +kernel
theorem d8 : decode yB 8 = .ok (.baload, 1) := by decide +kernel
theorem d9 : decode yB 9 = .ok (.sipush 255, 3) := by decide +kernel
theorem d12 : decode yB 12 = .ok (.iand, 1) := by decide +kernel
theorem d13 : decode yB 13 = .ok (.i2c, 1) := by decide +kernel
theorem d14 : decode yB 14 = .ok (.ireturn, 1) := by decide +kernel
def site : List Cond := [JO.Str_checkIndex.tab] ++ staticW "java/lang/StringLatin1" 9 JO.Str_checkIndex.yN
def tab : Cond := tabOf yN yB 2 (some .char) site
def P (t : Addr) (V : Cell) (i : Nat) (u : Int32) (fm : Value) (args : Array Value) (s : State) : Prop := args = #[.ref t, .int (Int32.ofNat i)] ∧ XT.Arr .byte t V s ∧ V.slots[i]? = some (.int u) ∧ (StaticIs s "jdk/internal/util/Preconditions" "SIOOBE_FORMATTER" "Ljava/util/function/BiFunction;" fm ∧ fm.isRef = true)
def E (u : Int32) (r : Option Value) (s w : State) : Prop := XT.PureE (some (.int (chr8 u))) r s w
theorem law (l : Launch) (t : Addr) (V : Cell) (i : Nat) (u : Int32) (fm : Value) : Law l yN 2 2 2 27 yB 2 (some .char) site (P t V i u fm) (E u) [] 0 0 := by
  refine Law.of_walk (plainFor_of_name (by decide +kernel)) (by decide +kernel) (by decide +kernel) (by decide) (fun _ _ h => by rw [h.1]; rfl) (fun _ U U' hal hh h => ⟨h.1, h.2.1.mv hal hh, h.2.2.1, h.2.2.2.1.there hal hh, h.2.2.2.2⟩) (fun r U U' V V' h1 hal h2 h => XT.PureE.mv r U U' V V' h1 hal h2 h) ?_
  intro p e s m args below meth c s₁ X0 hexec hbytes hml hret hlk hnm hown hh0 W hP
  obtain ⟨rfl, hV, hu, s1, rf⟩ := hP
  have v31 := hV.2.2.2
  have hi : i < V.slots.size := (Array.getElem?_eq_some_iff.mp hu).1
  have c1 : Steps p.tables e below (s₁.setTop (entryFrame m #[.ref t, .int (Int32.ofNat i)] 2)) (s₁.setTop (mkF m 0 #[.val (.ref t), .val (.int (Int32.ofNat i))] [])) := entry rfl
  have c2 : Steps p.tables e below (s₁.setTop (entryFrame m #[.ref t, .int (Int32.ofNat i)] 2)) (s₁.setTop (mkF m 3 #[.val (.ref t), .val (.int (Int32.ofNat i))] [.int (Int32.ofNat V.slots.size), .int (Int32.ofNat i)])) := c1.trans (by
    refine XS.iloadN X0.here hexec rfl (hb hbytes d0) rfl ?_
    refine XS.aloadN X0.here hexec rfl (hb hbytes d1) rfl rfl ?_
    refine X0.alen hexec (hV.mv X0.warmed.alike hh0) rfl rfl (hb hbytes d2) ?_
    exact Steps.refl _)
  obtain ⟨v3, T3, X3, E3, g3⟩ := X0.callS hexec (JO.Str_checkIndex.law l (Int32.ofNat i) (Int32.ofNat V.slots.size) fm) hown (wks W (staticW "java/lang/StringLatin1" 9 JO.Str_checkIndex.yN)) (wk W JO.Str_checkIndex.tab) (W := 0) (Nat.le_of_ble_eq_true rfl) (Nat.le_of_ble_eq_true rfl) (Nat.le_refl _) (Nat.le_refl _) (g := (mkF m 3 #[.val (.ref t), .val (.int (Int32.ofNat i))] [.int (Int32.ofNat V.slots.size), .int (Int32.ofNat i)])) rfl (by rw [hml]; rfl) c2 (argsL := [.int (Int32.ofNat i), .int (Int32.ofNat V.slots.size)]) (rest := []) rfl rfl (by show 2 * 0 + 0 ≤ _; decide) (hb hbytes d3) (⟨rfl, rf, s1.there X0.warmed.alike hh0, Int32.ofNat_not_neg (by omega), lt32 v31 hi⟩)
  obtain ⟨rfl, q3⟩ := E3
  have hh3 := q3.trans hh0
  have c4 : Steps p.tables e below (s₁.setTop (entryFrame m #[.ref t, .int (Int32.ofNat i)] 2)) (T3.setTop (mkF m 14 #[.val (.ref t), .val (.int (Int32.ofNat i))] [.int (chr8 u)])) := Steps.trans g3 (by
    refine XS.aloadN X3.here hexec rfl (hb hbytes d6) rfl rfl ?_
    refine XS.iloadN X3.here hexec rfl (hb hbytes d7) rfl ?_
    refine X3.aget hexec (hV.mv X3.warmed.alike hh3) rfl hu rfl rfl (hb hbytes d8) ?_
    refine sipushV X3.here hexec rfl 255 (hb hbytes d9) (by decide) ?_
    refine XS.iand X3.here hexec rfl (hb hbytes d12) rfl ?_
    refine i2c X3.here hexec rfl (hb hbytes d13) rfl ?_
    exact Steps.refl _)
  exact ⟨T3, some (.int (chr8 u)), _, _, _, X3, rfl, rfl, rfl, (fun h => by cases h), ⟨rfl, hh3⟩, fun fs hl => c4.trans (X3.ireturnOut hexec hret (narrow_c _) (Or.inr (Or.inr (Or.inr (Or.inl rfl)))) (hb hbytes d14) hl)⟩
end LChA
end StrChars
namespace StrChars.Road
open Jvm Sem ClassFile Op Lib Jvm.Stand Jvm.Free Jvm.Free.XT
open Jvm.Lib.Cold (StaticIs)
theorem consq {a : Array Value} {s : State} {c : Jvm.Cond} {L : List Jvm.Cond} (h0 : c.before a s = true) (h : ∀ w ∈ L, w.before a s = true) : ∀ w ∈ c :: L, w.before a s = true := fun w hw => (List.mem_cons.mp hw).elim (fun e => e ▸ h0) (h w)
/-- the words of String.length(), either coding -/
abbrev wordsLen : List Jvm.Cond := [.code Len.yN Len.yB 1 (some .int), .initialized ST, .fieldLink ST 9 ST "value" "[B", .fieldLink ST 38 ST "COMPACT_STRINGS" "Z", .fieldLink ST 15 ST "coder" "B", .code Cdr.yN Cdr.yB 1 (some .byte), .methodLink ST 335 Cdr.yN, .declares Cdr.yN, .selects ST Cdr.yN Cdr.yN, .instanceMethod Cdr.yN]
theorem tabLen_of {a : Array Value} {s : State} (h : ∀ w ∈ wordsLen, w.before a s = true) : Len.tab.before a s = true := by
  have hc : Cdr.tab.before a s = true := unparts (wk h (.code Cdr.yN Cdr.yB 1 (some .byte))) (wks h (.initialized Cdr.yN.cls :: Cdr.site))
  have q := consq hc h
  exact unparts (wk q (.code Len.yN Len.yB 1 (some .int))) (wks q (.initialized Len.yN.cls :: Len.site))
theorem movedLen {Z s : State} {a0 args : Array Value} (hZ : Z.Warmed39 s.vm) (hw : ∀ d ∈ wordsLen, d.before a0 Z = true) : ∀ d ∈ wordsLen, d.before args s = true := fun d hd => by
  have q := hw d hd
  have t : ∀ d ∈ wordsLen, d = .arrayClass .byte ∨ (d.onTables && d.keepsFace) = true := by decide +kernel
  rcases t d hd with rfl | t
  · exact RoadKit.mvA hZ q
  · exact RoadKit.mv hZ q t
/-- the bytes of the chars cs, low before high -/
def wideBytes : List Int32 → List Value
  | [] => []
  | c :: cs => .int (lo8 c) :: .int (hi8 c) :: wideBytes cs
theorem wide_lo (d : Value) : ∀ (cs : List Int32) (j : Nat), j < cs.length → (wideBytes cs).getD (2 * j) d = .int (lo8 (cs.getD j 0))
  | [], j, h => absurd h (Nat.not_lt_zero j)
  | c :: cs, 0, _ => rfl
  | c :: cs, j + 1, h => by
    have q := wide_lo d cs j (by simpa using h)
    rw [show 2 * (j + 1) = 2 * j + 1 + 1 from by omega]
    simpa [wideBytes] using q
theorem wide_hi (d : Value) : ∀ (cs : List Int32) (j : Nat), j < cs.length → (wideBytes cs).getD (2 * j + 1) d = .int (hi8 (cs.getD j 0))
  | [], j, h => absurd h (Nat.not_lt_zero j)
  | c :: cs, 0, _ => rfl
  | c :: cs, j + 1, h => by
    have q := wide_hi d cs j (by simpa using h)
    rw [show 2 * (j + 1) + 1 = 2 * j + 1 + 1 + 1 from by omega]
    simpa [wideBytes] using q
theorem low_at (d : Value) (cs : List Int32) (j : Nat) (h : j < cs.length) : (cs.map fun c => Value.int (lo8 c)).getD j d = .int (lo8 (cs.getD j 0)) := by
  simp [List.getD_eq_getElem?_getD, h]
/-- an array of N2 bytes vs codes the chars cs by the coder cd -/
def CodA (cs : List Int32) (cd N2 : Int32) (vs : List Value) : Prop := (cd = 0 ∧ N2 = Int32.ofNat cs.length ∧ vs = (cs.map fun c => Value.int (lo8 c)) ∧ ∀ c ∈ cs, ¬ 255 < c) ∨ (cd = 1 ∧ N2 = Int32.ofNat (2 * cs.length) ∧ vs = wideBytes cs ∧ ∃ c ∈ cs, 255 < c)
theorem CodA.cod {cs : List Int32} {cd N2 : Int32} {vs : List Value} {V : Cell} (h : CodA cs cd N2 vs) (hn : 2 * cs.length < 2 ^ 31) (hs : V.slots.size = N2.toNatClampNeg) (hv : RoadKit.Has V vs (.int 0)) : Cod cd cs.length (fun j => cs.getD j 0) V := by
  rcases h with ⟨rfl, rfl, rfl, h⟩ | ⟨rfl, rfl, rfl, c, hc, hw⟩
  · rw [n32 (by omega)] at hs
    exact Or.inl ⟨rfl, hs, fun j hj => ⟨by rw [hv j (by omega), low_at _ _ _ hj], by
      have e : cs.getD j 0 = cs[j] := by simp [List.getD_eq_getElem?_getD, hj]
      show ¬ 255 < cs.getD j 0
      rw [e]; exact h _ (List.getElem_mem _)⟩⟩
  · rw [n32 (by omega)] at hs
    obtain ⟨j, hj, rfl⟩ := List.getElem_of_mem hc
    exact Or.inr ⟨rfl, hs, fun j hj => ⟨by rw [hv _ (by omega), wide_lo _ _ _ hj], by rw [hv _ (by omega), wide_hi _ _ _ hj]⟩, j, hj, by
      have e : cs.getD j 0 = cs[j] := by simp [List.getD_eq_getElem?_getD, hj]
      show 255 < cs.getD j 0
      rw [e]; exact hw⟩
/-- an object of exactly java/lang/String, its two fields found: as the laws ask it -/
theorem strObj {Z U : State} {a0 : Array Value} {kI : Nat} (wi : (Jvm.Cond.instantiable ST kI).before a0 Z = true) (al : Z.vm.Alike U.vm) {x : Addr} {v0 c0 : Value} (E : RoadKit.Exa Z U.heap x ST) (V : RoadKit.Fld Z U.heap x ST "value" "[B" v0) (C : RoadKit.Fld Z U.heap x ST "coder" "B" c0) :
    ∃ (D : Cell) (fV fC : Field), Blank ST x D U ∧ Found ST "value" "[B" fV U ∧ Found ST "coder" "B" fC U ∧ D.slots[fV.slot]? = some v0 ∧ D.slots[fC.slot]? = some c0 ∧ RoadKit.slotOf Z ST "value" "[B" = fV.slot ∧ RoadKit.slotOf Z ST "coder" "B" = fC.slot := by
  obtain ⟨D, cfV, kV, iV, fV, hD, gV, stV, knV, obV, asV, slV⟩ := V
  obtain ⟨D', cfC, kC, iC, fC, hD', gC, stC, -, -, asC, slC⟩ := C
  cases hD.symm.trans hD'
  obtain ⟨D2, kD, e1, e2, e3, e4, e5⟩ := E
  cases hD.symm.trans e1
  obtain ⟨c2, k2, i1, i2, i3, -⟩ := Cond.instantiable_spec wi
  cases e2.symm.trans i1
  cases e3.symm.trans i2
  obtain ⟨kU, u1, u2⟩ := al.2.2 _ _ e3
  exact ⟨D, fV, fC, ⟨hD, ⟨knV, fun q hq => by rw [hq] at obV; cases obV⟩, by rw [al.findClass]; exact e2, kU, u1, by rw [u2]; exact i3, by rw [u2]; exact e5 i3⟩, ⟨SBG.found_only al ⟨cfV, kV, iV, gV⟩, stV⟩, ⟨SBG.found_only al ⟨cfC, kC, iC, gC⟩, stC⟩, slV, slC, by simp [RoadKit.slotOf, gV], by simp [RoadKit.slotOf, gC]⟩
theorem sta_is {Z U : State} (al : Z.vm.Alike U.vm) {C n d : String} {v : Value} (S : RoadKit.Sta Z U.heap C n d v) : StaticIs U C n d v := by
  obtain ⟨cfS, iS, kS, fS, st, cS, t1, t2, t3, t4, t5, t6, t7⟩ := S
  exact StaticIs.there (s := { Z with heap := U.heap }) ⟨cfS, iS, kS, fS, st, cS, t1, t2, t3, t4, t5, (fun q => by rw [q] at t6; cases t6), t7⟩ al rfl
/-- **length() OF SUCH A STRING** -/
theorem lenW {p : Program} {l : Launch} {e : Env} {R : Room} {s : State} {args : Array Value} {below : List Frame} {len W : Nat} {Z : State} {a0 : Array Value} {h : Heap} (hZ : Z.Warmed39 s.vm) (hw : ∀ d ∈ wordsLen, d.before a0 Z = true) {kI : Nat} (wi : (Jvm.Cond.instantiable ST kI).before a0 Z = true)
    {x t : Addr} {kb : ClassId} {cs : List Int32} {cd N2 z : Int32} {vs : List Value} (E : RoadKit.Exa Z h x ST) (V : RoadKit.Fld Z h x ST "value" "[B" (.ref t)) (C : RoadKit.Fld Z h x ST "coder" "B" (.int cd)) (K : RoadKit.Arv Z h t kb .byte N2 vs (.int 0)) (hc : CodA cs cd N2 vs) (hb : ∀ c ∈ cs, ¬ c < 0 ∧ ¬ (65535 : Int32) < c)
    (S : RoadKit.Sta Z h ST "COMPACT_STRINGS" "Z" (.int z)) (hz : ¬ z = 0) (l2 : cs.length ≤ 4000) (hfr : 2 ≤ R.frames) (hlo : W + 25 ≤ R.locals) :
    Back l R p e below s args (⟨"java/lang/String", "length", "()I"⟩ : MethodName) len W (fun P a => a = #[.ref x] ∧ P.U.heap = h ∧ P.cells + 0 ≤ R.cells ∧ P.slots + 0 ≤ R.slots)
      (fun P _ v B => ∃ L, (v = some (.int (Int32.ofNat cs.length)) ∧ L = [] ∧ B.U.heap = h) ∧ B.locs = P.locs ++ L ∧ B.cells = P.cells + 0 ∧ B.slots = P.slots + 0) := by
  obtain ⟨A, K1, K2, K3, K4, K5, K6⟩ := K
  have hcod := hc.cod (by omega) K3 K5
  intro m meth c P g ig mk a X hg hsize hdg hW hn hp'
  obtain ⟨rfl, rfl, r1, r2⟩ := hp'
  have al : Z.vm.Alike P.U.vm := hZ.alike.trans X.warmed.alike
  obtain ⟨D, fV, fC, hB, F1, F2, g1, g2, -, -⟩ := strObj wi al E V C
  have hx : Txt x t A cd cs.length (fun j => cs.getD j 0) P.U := ⟨⟨_, hB.2.2.1, D, hB.1, rfl, by cases q : D.vm <;> first | rfl | exact absurd q (hB.2.1.2 _)⟩, Has.of hB F1 g1, Has.of hB F2 g2, ⟨K1.1, State.isArrayOf_alike al K1.2.1, K1.2.2, by rcases hcod with ⟨-, q, -⟩ | ⟨-, q, -⟩ <;> omega⟩, hcod, fun j hj => by
    have e : cs.getD j 0 = cs[j] := by simp [List.getD_eq_getElem?_getD, hj]
    show ¬ cs.getD j 0 < 0 ∧ ¬ 65535 < cs.getD j 0
    rw [e]; exact hb _ (List.getElem_mem _)⟩
  obtain ⟨v, B, X', ⟨⟨hv, hh⟩, hl, hk, hs⟩, st⟩ := Len.pays x t A cd cs.length (fun j => cs.getD j 0) z (tabLen_of (movedLen hZ hw)) hfr hlo m meth c P g ig mk _ X hg hsize hdg hW hn ⟨r1, r2, rfl, hx, sta_is al S, hz⟩
  exact ⟨v, B, X', ⟨[], ⟨hv, rfl, hh⟩, hl, hk, hs⟩, st⟩
end StrChars.Road
namespace StrChars
open Jvm Sem ClassFile Op Lib Jvm.Stand Jvm.Free.XT Jvm.Free.ALB Jvm.Free.JM Jvm.Free
open Jvm.Lib.Cold (StaticIs)
namespace Emp
def yN : MethodName := ⟨"java/lang/String", "isEmpty", "()Z"⟩
abbrev yB : ByteArray := jdk_42_method_55_code
theorem d0 : decode yB 0 = .ok (.aload_n 0, 1) := by decide +kernel
theorem d1 : decode yB 1 = .ok (.getfield 9, 3) := by decide +kernel
theorem d4 : decode yB 4 = .ok (.arraylength, 1) := by decide +kernel
theorem d5 : decode yB 5 = .ok (.ifCond (.ne) 7, 3) := by decide +kernel
theorem d8 : decode yB 8 = .ok (.iconst 1, 1) := by decide +kernel
theorem d9 : decode yB 9 = .ok (.goto 4, 3) := by decide +kernel
theorem d12 : decode yB 12 = .ok (.iconst 0, 1) := by decide +kernel
theorem d13 : decode yB 13 = .ok (.ireturn, 1) := by decide +kernel
def site : List Cond := [.fieldLink "java/lang/String" 9 "java/lang/String" "value" "[B"]
def tab : Cond := tabOf yN yB 1 (some .boolean) site
def P (x t : Addr) (V : Cell) (cd : Int32) (n : Nat) (f : Nat → Int32) (args : Array Value) (s : State) : Prop := args = #[.ref x] ∧ Txt x t V cd n f s
def E (n : Nat) (r : Option Value) (s u : State) : Prop := XT.PureE (some (.int (if n = 0 then 1 else 0))) r s u
/-- isEmpty() of a String of n chars -/
theorem law (l : Launch) (x t : Addr) (V : Cell) (cd : Int32) (n : Nat) (f : Nat → Int32) : Law l yN 1 0 0 0 yB 1 (some .boolean) site (P x t V cd n f) (E n) [] 0 0 := by
  refine Law.of_walk (plainFor_of_name (by decide +kernel)) (by decide +kernel) (by decide +kernel) (by decide) (fun _ _ h => by rw [h.1]; rfl) (fun _ U U' hal hh h => ⟨h.1, h.2.mv hal hh⟩) (fun r U U' V V' h1 hal h2 h => XT.PureE.mv r U U' V V' h1 hal h2 h) ?_
  intro p e s m args below meth c s₁ X0 hexec hbytes hml hret hlk hnm hown hh0 W hP
  obtain ⟨rfl, hx⟩ := hP
  have v31 := hx.2.2.2.1.2.2.2
  have c1 : Steps p.tables e below (s₁.setTop (entryFrame m #[.ref x] 1)) (s₁.setTop (mkF m 1 #[.val (.ref x)] [.ref x])) := Steps.trans (entry rfl) (by
    show Steps p.tables e below (s₁.setTop (mkF m 0 #[.val (.ref x)] [])) _
    refine XS.aloadN X0.here hexec rfl (hb hbytes d0) rfl rfl ?_
    exact Steps.refl _)
  obtain ⟨T2, X2, q2, st2⟩ := X0.hget hexec hown (wk W (.fieldLink "java/lang/String" 9 "java/lang/String" "value" "[B")) (hx.mv X0.warmed.alike hh0).2.1 (g := (mkF m 1 #[.val (.ref x)] [.ref x])) rfl (rest := []) rfl (hb hbytes d1)
  have hh2 := q2.trans hh0
  have hx2 := hx.mv X2.warmed.alike hh2
  have c3 : Steps p.tables e below (s₁.setTop (entryFrame m #[.ref x] 1)) (T2.setTop (mkF m 5 #[.val (.ref x)] [.int (Int32.ofNat V.slots.size)])) := (c1.trans (st2 _ (Steps.refl _))).trans (by
    refine X2.alen hexec hx2.2.2.2.1 rfl rfl (hb hbytes d4) ?_
    exact Steps.refl _)
  have hz : V.slots.size = 0 ↔ n = 0 := by
    rcases hx.2.2.2.2.1 with ⟨-, q, -⟩ | ⟨-, q, -⟩ <;> omega
  by_cases h0 : n = 0
  · have c4 : Steps p.tables e below (s₁.setTop (entryFrame m #[.ref x] 1)) (T2.setTop (mkF m 13 #[.val (.ref x)] [.int 1])) := c3.trans (by
      refine XS.ifNo X2.here hexec rfl (hb hbytes d5) rfl (i0_ne_f (by rw [hz.mpr h0]; rfl)) ?_
      refine iconstV X2.here hexec rfl 1 (hb hbytes d8) (by decide) ?_
      refine XS.goto X2.here hexec rfl (pc0 := 9) rfl (hb hbytes d9) (by decide) rfl ?_
      exact Steps.refl _)
    exact ⟨T2, some (.int 1), _, _, _, X2, rfl, rfl, rfl, (fun h => by cases h), ⟨by rw [if_pos h0], hh2⟩, fun fs hl => c4.trans (X2.ireturnOut hexec hret rfl (Or.inr (Or.inl rfl)) (hb hbytes d13) hl)⟩
  · have c4 : Steps p.tables e below (s₁.setTop (entryFrame m #[.ref x] 1)) (T2.setTop (mkF m 13 #[.val (.ref x)] [.int 0])) := c3.trans (by
      refine XS.ifYes X2.here hexec rfl (pc0 := 5) rfl (hb hbytes d5) rfl (i0_ne_t (nz32 v31 (by omega))) (by decide) rfl ?_
      refine iconstV X2.here hexec rfl 0 (hb hbytes d12) (by decide) ?_
      exact Steps.refl _)
    exact ⟨T2, some (.int 0), _, _, _, X2, rfl, rfl, rfl, (fun h => by cases h), ⟨by rw [if_neg h0], hh2⟩, fun fs hl => c4.trans (X2.ireturnOut hexec hret rfl (Or.inr (Or.inl rfl)) (hb hbytes d13) hl)⟩
theorem pays {l : Launch} {R : Room} {p : Program} {e : Env} {below : List Frame} {s : State} {sargs : Array Value} {len W : Nat} (x t : Addr) (V : Cell) (cd : Int32) (n : Nat) (f : Nat → Int32) (htab : tab.before sargs s = true) (hfr : 1 ≤ R.frames) (hlo : W + 12 ≤ R.locals) :
    Back l R p e below s sargs yN len W (fun A₁ a₁ => A₁.cells + 0 ≤ R.cells ∧ A₁.slots + 0 ≤ R.slots ∧ P x t V cd n f a₁ A₁.U) (fun A₁ _ v₁ B₁ => E n v₁ A₁.U B₁.U ∧ B₁.locs = A₁.locs ++ [] ∧ B₁.cells = A₁.cells + 0 ∧ B₁.slots = A₁.slots + 0) :=
  (law l x t V cd n f).pays htab hfr (by omega)
end Emp
/-- what place i of a byte[]'s cell holds -/
def yv (A : Cell) (i : Nat) : Int32 := match A.slots[i]? with | some (.int x) => x | _ => 0
theorem yv_get {a : Addr} {A : Cell} {U : State} (h : XT.Arr .byte a A U) (ht : Typed .byte A) {i : Nat} (hi : i < A.slots.size) : A.slots[i]? = some (.int (yv A i)) := by
  have e := Array.getElem?_eq_getElem hi
  have f := ht i _ e
  unfold yv; rw [e]
  generalize A.slots[i] = v at f
  cases v <;> simp [fits] at f ⊢
/-- the two arrays are equal, place for place -/
def EqC (A B : Cell) : Prop := A.slots.size = B.slots.size ∧ ∀ i, i < A.slots.size → yv A i = yv B i
/-- a boolean that says whether p -/
def Says01 (q : Prop) (r : Option Value) (s u : State) : Prop := ∃ v : Int32, r = some (.int v) ∧ u.heap = s.heap ∧ ((v = 1 ∧ q) ∨ (v = 0 ∧ ¬ q))
theorem Says01.mv {q : Prop} : ∀ r (U U' V V' : State), U'.heap = U.heap → V.vm.Alike V'.vm → V'.heap = V.heap → Says01 q r U V → Says01 q r U' V' :=
  fun r U U' V V' h1 _ h2 ⟨v, a, b, c⟩ => ⟨v, a, by rw [h1, h2]; exact b, c⟩
namespace LEq
def yN : MethodName := ⟨"java/lang/StringLatin1", "equals", "([B[B)Z"⟩
abbrev yB : ByteArray := jdk_43_method_13_code
theorem d0 : decode yB 0 = .ok (.aload_n 0, 1) := by decide +kernel
theorem d1 : decode yB 1 = .ok (.arraylength, 1) := by decide +kernel
theorem d2 : decode yB 2 = .ok (.aload_n 1, 1) := by decide +kernel
theorem d3 : decode yB 3 = .ok (.arraylength, 1) := by decide +kernel
theorem d4 : decode yB 4 = .ok (.if_icmp (.ne) 30, 3) := by decide +kernel
theorem d7 : decode yB 7 = .ok (.iconst 0, 1) := by decide +kernel
theorem d8 : decode yB 8 = .ok (.istore_n 2, 1) := by decide +kernel
theorem d9 : decode yB 9 = .ok (.iload_n 2, 1) := by decide +kernel
theorem d10 : decode yB 10 = .ok (.aload_n 0, 1) := by decide +kernel
theorem d11 : decode yB 11 = .ok (.arraylength, 1) := by decide +kernel
theorem d12 : decode yB 12 = .ok (.if_icmp (.ge) 20, 3) := by decide +kernel
theorem d15 : decode yB 15 = .ok (.aload_n 0, 1) := by decide +kernel
theorem d16 : decode yB 16 = .ok (.iload_n 2, 1) := by decide +kernel
theorem d17 : decode yB 17 = .ok (.baload, 1) := by decide +kernel
theorem d18 : decode yB 18 = .ok (.aload_n 1, 1) := by decide +kernel
theorem d19 : decode yB 19 = .ok (.iload_n 2, 1) := by decide +kernel
theorem d20 : decode yB 20 = .ok (.baload, 1) := by decide +kernel
theorem d21 : decode yB 21 = .ok (.if_icmp (.eq) 5, 3) := by decide +kernel
theorem d24 : decode yB 24 = .ok (.iconst 0, 1) := by decide +kernel
theorem d25 : decode yB 25 = .ok (.ireturn, 1) := by decide +kernel
theorem d26 : decode yB 26 = .ok (.iinc 2 1, 3) := by decide +kernel
theorem d29 : decode yB 29 = .ok (.goto (-20), 3) := by decide +kernel
theorem d32 : decode yB 32 = .ok (.iconst 1, 1) := by decide +kernel
theorem d33 : decode yB 33 = .ok (.ireturn, 1) := by decide +kernel
theorem d34 : decode yB 34 = .ok (.iconst 0, 1) := by decide +kernel
theorem d35 : decode yB 35 = .ok (.ireturn, 1) := by decide +kernel
def site : List Cond := []
def tab : Cond := tabOf yN yB 3 (some .boolean) site
def P (a : Addr) (A : Cell) (b : Addr) (B : Cell) (args : Array Value) (s : State) : Prop := args = #[.ref a, .ref b] ∧ XT.Arr .byte a A s ∧ Typed .byte A ∧ XT.Arr .byte b B s ∧ Typed .byte B
/-- whether two byte[] are equal, place for place -/
theorem law (l : Launch) (a : Addr) (A : Cell) (b : Addr) (B : Cell) : Law l yN 2 2 0 0 yB 3 (some .boolean) site (P a A b B) (Says01 (EqC A B)) [] 0 0 := by
  refine Law.of_walk (plainFor_of_name (by decide +kernel)) (by decide +kernel) (by decide +kernel) (by decide) (fun _ _ h => by rw [h.1]; rfl) (fun _ U U' hal hh h => ⟨h.1, h.2.1.mv hal hh, h.2.2.1, h.2.2.2.1.mv hal hh, h.2.2.2.2⟩) (fun r U U' V V' h1 hal h2 h => Says01.mv r U U' V V' h1 hal h2 h) ?_
  intro p e s m args below meth c s₁ X0 hexec hbytes hml hret hlk hnm hown hh0 W hP
  obtain ⟨rfl, hA, tA, hB, tB⟩ := hP
  have a31 := hA.2.2.2
  have b31 := hB.2.2.2
  have hA0 := hA.mv X0.warmed.alike hh0
  have hB0 := hB.mv X0.warmed.alike hh0
  have c1 : Steps p.tables e below (s₁.setTop (entryFrame m #[.ref a, .ref b] 3)) (s₁.setTop (mkF m 0 #[.val (.ref a), .val (.ref b), .unset] [])) := entry rfl
  have c2 : Steps p.tables e below (s₁.setTop (entryFrame m #[.ref a, .ref b] 3)) (s₁.setTop (mkF m 4 #[.val (.ref a), .val (.ref b), .unset] [.int (Int32.ofNat B.slots.size), .int (Int32.ofNat A.slots.size)])) := c1.trans (by
    refine XS.aloadN X0.here hexec rfl (hb hbytes d0) rfl rfl ?_
    refine X0.alen hexec hA0 rfl rfl (hb hbytes d1) ?_
    refine XS.aloadN X0.here hexec rfl (hb hbytes d2) rfl rfl ?_
    refine X0.alen hexec hB0 rfl rfl (hb hbytes d3) ?_
    exact Steps.refl _)
  by_cases hs : A.slots.size = B.slots.size
  · have c3 : Steps p.tables e below (s₁.setTop (entryFrame m #[.ref a, .ref b] 3)) (s₁.setTop (mkF m 9 #[.val (.ref a), .val (.ref b), .val (.int 0)] [])) := c2.trans (by
      refine XS.icmpNo X0.here hexec rfl (hb hbytes d4) rfl (ii_ne_f (by rw [hs])) ?_
      refine iconstV X0.here hexec rfl 0 (hb hbytes d7) (by decide) ?_
      refine XS.istoreN X0.here hexec rfl (hb hbytes d8) rfl rfl ?_
      exact Steps.refl _)
    have loop : ∀ (r i : Nat), i + r = A.slots.size → (∀ j, j < i → yv A j = yv B j) → Steps p.tables e below (s₁.setTop (entryFrame m #[.ref a, .ref b] 3)) (s₁.setTop (mkF m 9 #[.val (.ref a), .val (.ref b), .val (.int (Int32.ofNat i))] [])) → ∃ (pc : Nat) (Ls : Array Slot) (v : Int32), (pc = 25 ∨ pc = 33) ∧ ((v = 1 ∧ EqC A B) ∨ (v = 0 ∧ ¬ EqC A B)) ∧ Steps p.tables e below (s₁.setTop (entryFrame m #[.ref a, .ref b] 3)) (s₁.setTop (mkF m pc Ls [.int v])) := by
      intro r
      induction r with
      | zero =>
        intro i hi he cl
        exact ⟨33, _, 1, Or.inr rfl, Or.inl ⟨rfl, hs, fun j hj => he j (by omega)⟩, cl.trans (by
          refine XS.iloadN X0.here hexec rfl (hb hbytes d9) rfl ?_
          refine XS.aloadN X0.here hexec rfl (hb hbytes d10) rfl rfl ?_
          refine X0.alen hexec hA0 rfl rfl (hb hbytes d11) ?_
          refine XS.icmpYes X0.here hexec rfl (pc0 := 12) rfl (hb hbytes d12) rfl (ii_ge_t (nlt32 (by omega) (by omega))) (by decide) rfl ?_
          refine iconstV X0.here hexec rfl 1 (hb hbytes d32) (by decide) ?_
          exact Steps.refl _)⟩
      | succ r ih =>
        intro i hi he cl
        have c4 : Steps p.tables e below (s₁.setTop (entryFrame m #[.ref a, .ref b] 3)) (s₁.setTop (mkF m 21 #[.val (.ref a), .val (.ref b), .val (.int (Int32.ofNat i))] [.int (yv B i), .int (yv A i)])) := cl.trans (by
          refine XS.iloadN X0.here hexec rfl (hb hbytes d9) rfl ?_
          refine XS.aloadN X0.here hexec rfl (hb hbytes d10) rfl rfl ?_
          refine X0.alen hexec hA0 rfl rfl (hb hbytes d11) ?_
          refine XS.icmpNo X0.here hexec rfl (hb hbytes d12) rfl (ii_ge_f (lt32 (by omega) (by omega))) ?_
          refine XS.aloadN X0.here hexec rfl (hb hbytes d15) rfl rfl ?_
          refine XS.iloadN X0.here hexec rfl (hb hbytes d16) rfl ?_
          refine X0.aget hexec hA0 rfl (yv_get hA tA (i := i) (by omega)) rfl rfl (hb hbytes d17) ?_
          refine XS.aloadN X0.here hexec rfl (hb hbytes d18) rfl rfl ?_
          refine XS.iloadN X0.here hexec rfl (hb hbytes d19) rfl ?_
          refine X0.aget hexec hB0 rfl (yv_get hB tB (i := i) (by omega)) rfl rfl (hb hbytes d20) ?_
          exact Steps.refl _)
        by_cases hv : yv A i = yv B i
        · have c5 : Steps p.tables e below (s₁.setTop (entryFrame m #[.ref a, .ref b] 3)) (s₁.setTop (mkF m 9 #[.val (.ref a), .val (.ref b), .val (.int (Int32.ofNat i + 1))] [])) := c4.trans (by
            refine XS.icmpYes X0.here hexec rfl (pc0 := 21) rfl (hb hbytes d21) rfl (ii_eq_t hv) (by decide) rfl ?_
            refine iincV X0.here hexec rfl 1 (hb hbytes d26) (by decide) rfl rfl ?_
            refine XS.goto X0.here hexec rfl (pc0 := 29) rfl (hb hbytes d29) (by decide) rfl ?_
            exact Steps.refl _)
          rw [succ32] at c5
          exact ih (i + 1) (by omega) (fun j hj => by
            by_cases e : j = i
            · rw [e]; exact hv
            · exact he j (by omega)) c5
        · exact ⟨25, _, 0, Or.inl rfl, Or.inr ⟨rfl, fun q => hv (q.2 i (by omega))⟩, c4.trans (by
            refine XS.icmpNo X0.here hexec rfl (hb hbytes d21) rfl (ii_eq_f hv) ?_
            refine iconstV X0.here hexec rfl 0 (hb hbytes d24) (by decide) ?_
            exact Steps.refl _)⟩
    obtain ⟨pc, Ls, v, hpc, hv, cz⟩ := loop A.slots.size 0 (by omega) (fun j hj => absurd hj (Nat.not_lt_zero j)) c3
    have nv : narrow .boolean (.int v) = .int v := by rcases hv with ⟨rfl, -⟩ | ⟨rfl, -⟩ <;> rfl
    rcases hpc with rfl | rfl
    · exact ⟨s₁, some (.int v), _, _, _, X0, rfl, rfl, rfl, (fun h => by cases h), ⟨v, rfl, hh0, hv⟩, fun fs hl => cz.trans (X0.ireturnOut hexec hret nv (Or.inr (Or.inl rfl)) (hb hbytes d25) hl)⟩
    · exact ⟨s₁, some (.int v), _, _, _, X0, rfl, rfl, rfl, (fun h => by cases h), ⟨v, rfl, hh0, hv⟩, fun fs hl => cz.trans (X0.ireturnOut hexec hret nv (Or.inr (Or.inl rfl)) (hb hbytes d33) hl)⟩
  · have c3 : Steps p.tables e below (s₁.setTop (entryFrame m #[.ref a, .ref b] 3)) (s₁.setTop (mkF m 35 #[.val (.ref a), .val (.ref b), .unset] [.int 0])) := c2.trans (by
      refine XS.icmpYes X0.here hexec rfl (pc0 := 4) rfl (hb hbytes d4) rfl (ii_ne_t (ne32 a31 b31 hs)) (by decide) rfl ?_
      refine iconstV X0.here hexec rfl 0 (hb hbytes d34) (by decide) ?_
      exact Steps.refl _)
    exact ⟨s₁, some (.int 0), _, _, _, X0, rfl, rfl, rfl, (fun h => by cases h), ⟨0, rfl, hh0, Or.inr ⟨rfl, fun q => hs q.1⟩⟩, fun fs hl => c3.trans (X0.ireturnOut hexec hret rfl (Or.inr (Or.inl rfl)) (hb hbytes d35) hl)⟩
end LEq
theorem Cod.ty {cd : Int32} {n : Nat} {f : Nat → Int32} {V : Cell} (h : Cod cd n f V) : Typed .byte V := fun i v hv => by
  have hi : i < V.slots.size := (Array.getElem?_eq_some_iff.mp hv).1
  rcases h with ⟨-, k1, k2⟩ | ⟨-, k1, k2, -⟩
  · rw [(k2 i (by omega)).1] at hv; cases hv; exact fits_lo8 _
  · rcases Nat.mod_two_eq_zero_or_one i with e | e
    · obtain ⟨j, rfl⟩ : ∃ j, i = 2 * j := ⟨i / 2, by omega⟩
      rw [(k2 j (by omega)).1] at hv; cases hv; exact fits_lo8 _
    · obtain ⟨j, rfl⟩ : ∃ j, i = 2 * j + 1 := ⟨i / 2, by omega⟩
      rw [(k2 j (by omega)).2] at hv; cases hv; exact fits_lo8 _
/-- the same text -/
def SameT (n : Nat) (f : Nat → Int32) (k : Nat) (g : Nat → Int32) : Prop := n = k ∧ ∀ j, j < n → f j = g j
theorem lo8_inj {x y : Int32} (h0 : ¬ x < 0) (h1 : ¬ 255 < x) (k0 : ¬ y < 0) (k1 : ¬ 255 < y) (h : lo8 x = lo8 y) : x = y := by
  rw [← lo8_mask h0 h1, ← lo8_mask k0 k1, h]
/-- arrays coded by one coder are equal just where the texts are -/
theorem Cod.eqv {cd : Int32} {n k : Nat} {f g : Nat → Int32} {V V' : Cell} (h : Cod cd n f V) (h' : Cod cd k g V') (hf : ∀ j, j < n → ¬ f j < 0 ∧ ¬ 65535 < f j) (hg : ∀ j, j < k → ¬ g j < 0 ∧ ¬ 65535 < g j) : EqC V V' ↔ SameT n f k g := by
  have yvv : ∀ {W : Cell} {i : Nat} {x : Int32}, W.slots[i]? = some (.int x) → yv W i = x := fun q => by unfold yv; rw [q]
  rcases h with ⟨rfl, k1, k2⟩ | ⟨rfl, k1, k2, -⟩
  · rcases h' with ⟨-, m1, m2⟩ | ⟨e, -⟩
    · constructor
      · rintro ⟨e1, e2⟩
        refine ⟨by omega, fun j hj => ?_⟩
        have q := e2 j (by omega)
        rw [yvv (k2 j hj).1, yvv (m2 j (by omega)).1] at q
        exact lo8_inj (hf j hj).1 (k2 j hj).2 (hg j (by omega)).1 (m2 j (by omega)).2 q
      · rintro ⟨rfl, e2⟩
        refine ⟨by omega, fun j hj => ?_⟩
        rw [yvv (k2 j (by omega)).1, yvv (m2 j (by omega)).1, e2 j (by omega)]
    · exact absurd e (by decide)
  · rcases h' with ⟨e, -⟩ | ⟨-, m1, m2, -⟩
    · exact absurd e (by decide)
    · constructor
      · rintro ⟨e1, e2⟩
        refine ⟨by omega, fun j hj => ?_⟩
        have q1 := e2 (2 * j) (by omega)
        have q2 := e2 (2 * j + 1) (by omega)
        rw [yvv (k2 j hj).1, yvv (m2 j (by omega)).1] at q1
        rw [yvv (k2 j hj).2, yvv (m2 j (by omega)).2] at q2
        rw [← pair_says (hf j hj).1 (hf j hj).2, ← pair_says (hg j (by omega)).1 (hg j (by omega)).2, q1, q2]
      · rintro ⟨rfl, e2⟩
        refine ⟨by omega, fun i hi => ?_⟩
        rcases Nat.mod_two_eq_zero_or_one i with e | e
        · obtain ⟨j, rfl⟩ : ∃ j, i = 2 * j := ⟨i / 2, by omega⟩
          rw [yvv (k2 j (by omega)).1, yvv (m2 j (by omega)).1, e2 j (by omega)]
        · obtain ⟨j, rfl⟩ : ∃ j, i = 2 * j + 1 := ⟨i / 2, by omega⟩
          rw [yvv (k2 j (by omega)).2, yvv (m2 j (by omega)).2, e2 j (by omega)]
/-- two codings differ: so do the texts -/
theorem Cod.dif {cd cd' : Int32} {n k : Nat} {f g : Nat → Int32} {V V' : Cell} (h : Cod cd n f V) (h' : Cod cd' k g V') (hne : ¬ cd = cd') : ¬ SameT n f k g := by
  rintro ⟨rfl, e⟩
  rcases h with ⟨rfl, -, k2⟩ | ⟨rfl, -, -, j, hj, hw⟩
  · rcases h' with ⟨rfl, -⟩ | ⟨-, -, -, j, hj, hw⟩
    · exact hne rfl
    · exact (k2 j hj).2 (by rw [e j hj]; exact hw)
  · rcases h' with ⟨-, -, m2⟩ | ⟨rfl, -⟩
    · exact (m2 j hj).2 (by rw [← e j hj]; exact hw)
    · exact hne rfl
/-- an object of exactly C is an instance of C -/
theorem cinst {p : Program} {l : Launch} {e : Env} {R : Room} {s : State} {m : MethodId} {args : Array Value} {below : List Frame} {meth : Method} {c : Code} {T : State} {locs : List Loc} {cells slots : Nat} (X : Stand p l e R s m args below meth c T locs cells slots) (hexec : p.tables.exec = Jvm.exec) {own C : String} {index : Nat} (hown : s.vm.findClass own = some m.cls) (hlink : (Cond.classLink own index C).before args s = true) {a : Addr} (hE : Exact C a T)
    {g : JFrame} (hg : g.method = m) {rest : List Value} (hstack : g.stack = .ref a :: rest) (hdg : decode c.code g.pc = .ok (.instanceof index, 3)) :
    ∃ T', Stand p l e R s m args below meth c T' locs cells slots ∧ T'.heap = T.heap ∧ ∀ target, Steps p.tables e below (T'.setTop { g with pc := g.pc + 3, stack := .int 1 :: rest }) target → Steps p.tables e below (T.setTop g) target := by
  obtain ⟨cB, h1, D, h2, h3, h4⟩ := hE
  have h1' : s.vm.findClass C = some cB := by rw [← X.warmed.alike.findClass]; exact h1
  obtain ⟨vm', X', st⟩ := X.instanceofYes hexec hown hlink h2 h4 h1' (by rw [h3]; exact Jvm.Free.SB.assignable_self _ _) hg hstack hdg
  exact ⟨_, X', rfl, st⟩
theorem cself {p : Program} {l : Launch} {e : Env} {R : Room} {s : State} {m : MethodId} {args : Array Value} {below : List Frame} {meth : Method} {c : Code} {T : State} {locs : List Loc} {cells slots : Nat} (X : Stand p l e R s m args below meth c T locs cells slots) (hexec : p.tables.exec = Jvm.exec) {own C : String} {index : Nat} (hown : s.vm.findClass own = some m.cls) (hlink : (Cond.classLink own index C).before args s = true) {a : Addr} (hE : Exact C a T)
    {g : JFrame} (hg : g.method = m) {rest : List Value} (hstack : g.stack = .ref a :: rest) (hdg : decode c.code g.pc = .ok (.checkcast index, 3)) :
    ∃ T', Stand p l e R s m args below meth c T' locs cells slots ∧ T'.heap = T.heap ∧ ∀ target, Steps p.tables e below (T'.setTop { g with pc := g.pc + 3, stack := .ref a :: rest }) target → Steps p.tables e below (T.setTop g) target := by
  obtain ⟨cB, h1, D, h2, h3, h4⟩ := hE
  have h1' : s.vm.findClass C = some cB := by rw [← X.warmed.alike.findClass]; exact h1
  obtain ⟨vm', X', st⟩ := X.checkcastYes hexec hown hlink h2 h4 h1' (by rw [h3]; exact Jvm.Free.SB.assignable_self _ _) hg hstack hdg
  exact ⟨_, X', rfl, fun t h => st t (by rw [← hstack] at h; exact h)⟩
namespace SEq
def yN : MethodName := ⟨"java/lang/String", "equals", "(Ljava/lang/Object;)Z"⟩
abbrev yB : ByteArray := jdk_42_method_66_code
theorem d0 : decode yB 0 = .ok (.aload_n 0, 1) := by decide +kernel
theorem d1 : decode yB 1 = .ok (.aload_n 1, 1) := by decide +kernel
theorem d2 : decode yB 2 = .ok (.if_acmp (.ne) 5, 3) := by decide +kernel
theorem d5 : decode yB 5 = .ok (.iconst 1, 1) := by decide +kernel
theorem d6 : decode yB 6 = .ok (.ireturn, 1) := by decide +kernel
theorem d7 : decode yB 7 = .ok (.aload_n 1, 1) := by decide +kernel
theorem d8 : decode yB 8 = .ok (.instanceof 10, 3) := by decide +kernel
theorem d11 : decode yB 11 = .ok (.ifCond (.eq) 43, 3) := by decide +kernel
theorem d14 : decode yB 14 = .ok (.aload_n 1, 1) := by decide +kernel
theorem d15 : decode yB 15 = .ok (.checkcast 10, 3) := by decide +kernel
theorem d18 : decode yB 18 = .ok (.astore_n 2, 1) := by decide +kernel
theorem d19 : decode yB 19 = .ok (.getstatic 38, 3) := by decide +kernel
theorem d22 : decode yB 22 = .ok (.ifCond (.eq) 14, 3) := by decide +kernel
theorem d25 : decode yB 25 = .ok (.aload_n 0, 1) := by decide +kernel
theorem d26 : decode yB 26 = .ok (.getfield 15, 3) := by decide +kernel
theorem d29 : decode yB 29 = .ok (.aload_n 2, 1) := by decide +kernel
theorem d30 : decode yB 30 = .ok (.getfield 15, 3) := by decide +kernel
theorem d33 : decode yB 33 = .ok (.if_icmp (.ne) 21, 3) := by decide +kernel
theorem d36 : decode yB 36 = .ok (.aload_n 0, 1) := by decide +kernel
theorem d37 : decode yB 37 = .ok (.getfield 9, 3) := by decide +kernel
theorem d40 : decode yB 40 = .ok (.aload_n 2, 1) := by decide +kernel
theorem d41 : decode yB 41 = .ok (.getfield 9, 3) := by decide +kernel
theorem d44 : decode yB 44 = .ok (.invokestatic 541, 3) := by decide +kernel
theorem d47 : decode yB 47 = .ok (.ifCond (.eq) 7, 3) := by decide +kernel
theorem d50 : decode yB 50 = .ok (.iconst 1, 1) := by decide +kernel
theorem d51 : decode yB 51 = .ok (.goto 4, 3) := by decide +kernel
theorem d54 : decode yB 54 = .ok (.iconst 0, 1) := by decide +kernel
theorem d55 : decode yB 55 = .ok (.ireturn, 1) := by decide +kernel
def site : List Cond := [.classLink "java/lang/String" 10 "java/lang/String", .fieldLink "java/lang/String" 38 "java/lang/String" "COMPACT_STRINGS" "Z", .fieldLink "java/lang/String" 15 "java/lang/String" "coder" "B", .fieldLink "java/lang/String" 9 "java/lang/String" "value" "[B", LEq.tab] ++ staticW "java/lang/String" 541 LEq.yN
def tab : Cond := tabOf yN yB 3 (some .boolean) site
def P (x t : Addr) (V : Cell) (cd : Int32) (n : Nat) (f : Nat → Int32) (y t' : Addr) (V' : Cell) (cd' : Int32) (k : Nat) (g : Nat → Int32) (z : Int32) (args : Array Value) (s : State) : Prop := args = #[.ref x, .ref y] ∧ Txt x t V cd n f s ∧ Txt y t' V' cd' k g s ∧ StaticIs s "java/lang/String" "COMPACT_STRINGS" "Z" (.int z) ∧ ¬ z = 0
/-- equals(Object) of two Strings: whether the texts are the same -/
theorem law (l : Launch) (x t : Addr) (V : Cell) (cd : Int32) (n : Nat) (f : Nat → Int32) (y t' : Addr) (V' : Cell) (cd' : Int32) (k : Nat) (g : Nat → Int32) (z : Int32) : Law l yN 2 1 1 14 yB 3 (some .boolean) site (P x t V cd n f y t' V' cd' k g z) (Says01 (SameT n f k g)) [] 0 0 := by
  refine Law.of_walk (plainFor_of_name (by decide +kernel)) (by decide +kernel) (by decide +kernel) (by decide) (fun _ _ h => by rw [h.1]; rfl) (fun _ U U' hal hh h => ⟨h.1, h.2.1.mv hal hh, h.2.2.1.mv hal hh, h.2.2.2.1.there hal hh, h.2.2.2.2⟩) (fun r U U' V V' h1 hal h2 h => Says01.mv r U U' V V' h1 hal h2 h) ?_
  intro p e s m args below meth c s₁ X0 hexec hbytes hml hret hlk hnm hown hh0 W hP
  obtain ⟨rfl, hx, hy, s1, hz⟩ := hP
  have c1 : Steps p.tables e below (s₁.setTop (entryFrame m #[.ref x, .ref y] 3)) (s₁.setTop (mkF m 2 #[.val (.ref x), .val (.ref y), .unset] [.ref y, .ref x])) := Steps.trans (entry rfl) (by
    show Steps p.tables e below (s₁.setTop (mkF m 0 #[.val (.ref x), .val (.ref y), .unset] [])) _
    refine XS.aloadN X0.here hexec rfl (hb hbytes d0) rfl rfl ?_
    refine XS.aloadN X0.here hexec rfl (hb hbytes d1) rfl rfl ?_
    exact Steps.refl _)
  by_cases hxy : x = y
  · have c2 : Steps p.tables e below (s₁.setTop (entryFrame m #[.ref x, .ref y] 3)) (s₁.setTop (mkF m 6 #[.val (.ref x), .val (.ref y), .unset] [.int 1])) := c1.trans (by
      refine acmpNo X0.here hexec rfl (hb hbytes d2) rfl rfl rfl (by simp [acmp, hxy]) ?_
      refine iconstV X0.here hexec rfl 1 (hb hbytes d5) (by decide) ?_
      exact Steps.refl _)
    subst hxy
    have ec : cd = cd' := by
      obtain ⟨D, fd, a1, a2, a3⟩ := hx.2.2.1
      obtain ⟨D', fd', b1, b2, b3⟩ := hy.2.2.1
      cases a1.symm.trans b1
      obtain ⟨q1, q2, q3, q4⟩ := a2.1
      obtain ⟨r1, r2, r3, r4⟩ := b2.1
      cases q4.symm.trans r4
      cases a3.symm.trans b3; rfl
    have et : t = t' := by
      obtain ⟨D, fd, a1, a2, a3⟩ := hx.2.1
      obtain ⟨D', fd', b1, b2, b3⟩ := hy.2.1
      cases a1.symm.trans b1
      obtain ⟨q1, q2, q3, q4⟩ := a2.1
      obtain ⟨r1, r2, r3, r4⟩ := b2.1
      cases q4.symm.trans r4
      cases a3.symm.trans b3; rfl
    subst ec et
    have ev : V = V' := by cases hx.2.2.2.1.1.symm.trans hy.2.2.2.1.1; rfl
    subst ev
    have hs : SameT n f k g := (Cod.eqv hx.2.2.2.2.1 hy.2.2.2.2.1 hx.2.2.2.2.2 hy.2.2.2.2.2).mp ⟨rfl, fun _ _ => rfl⟩
    exact ⟨s₁, some (.int 1), _, _, _, X0, rfl, rfl, rfl, (fun h => by cases h), ⟨1, rfl, hh0, Or.inl ⟨rfl, hs⟩⟩, fun fs hl => c2.trans (X0.ireturnOut hexec hret rfl (Or.inr (Or.inl rfl)) (hb hbytes d6) hl)⟩
  · have c2 : Steps p.tables e below (s₁.setTop (entryFrame m #[.ref x, .ref y] 3)) (s₁.setTop (mkF m 8 #[.val (.ref x), .val (.ref y), .unset] [.ref y])) := c1.trans (by
      refine acmpYes X0.here hexec rfl (pc0 := 2) rfl (hb hbytes d2) rfl rfl rfl (by simp [acmp, hxy]) (by decide) rfl ?_
      refine XS.aloadN X0.here hexec rfl (hb hbytes d7) rfl rfl ?_
      exact Steps.refl _)
    obtain ⟨T3, X3, q3, st3⟩ := cinst X0 hexec hown (wk W (.classLink "java/lang/String" 10 "java/lang/String")) (hy.mv X0.warmed.alike hh0).1 (g := (mkF m 8 #[.val (.ref x), .val (.ref y), .unset] [.ref y])) rfl (rest := []) rfl (hb hbytes d8)
    have hh3 := q3.trans hh0
    have c4 : Steps p.tables e below (s₁.setTop (entryFrame m #[.ref x, .ref y] 3)) (T3.setTop (mkF m 15 #[.val (.ref x), .val (.ref y), .unset] [.ref y])) := (c2.trans (st3 _ (Steps.refl _))).trans (by
      refine XS.ifNo X3.here hexec rfl (hb hbytes d11) rfl (i0_eq_f (by decide)) ?_
      refine XS.aloadN X3.here hexec rfl (hb hbytes d14) rfl rfl ?_
      exact Steps.refl _)
    obtain ⟨T5, X5, q5, st5⟩ := cself X3 hexec hown (wk W (.classLink "java/lang/String" 10 "java/lang/String")) (hy.mv X3.warmed.alike hh3).1 (g := (mkF m 15 #[.val (.ref x), .val (.ref y), .unset] [.ref y])) rfl (rest := []) rfl (hb hbytes d15)
    have hh5 := q5.trans hh3
    have c6 : Steps p.tables e below (s₁.setTop (entryFrame m #[.ref x, .ref y] 3)) (T5.setTop (mkF m 19 #[.val (.ref x), .val (.ref y), .val (.ref y)] [])) := (c4.trans (st5 _ (Steps.refl _))).trans (by
      refine XS.astoreN X5.here hexec rfl (hb hbytes d18) rfl rfl rfl ?_
      exact Steps.refl _)
    obtain ⟨T7, X7, q7, st7⟩ := X5.sget hexec hown (wk W (.fieldLink "java/lang/String" 38 "java/lang/String" "COMPACT_STRINGS" "Z")) s1 (fun _ _ h => by rw [hh5]; exact h) (g := (mkF m 19 #[.val (.ref x), .val (.ref y), .val (.ref y)] [])) rfl (hb hbytes d19)
    have hh7 := q7.trans hh5
    have c8 : Steps p.tables e below (s₁.setTop (entryFrame m #[.ref x, .ref y] 3)) (T7.setTop (mkF m 26 #[.val (.ref x), .val (.ref y), .val (.ref y)] [.ref x])) := (c6.trans (st7 _ (Steps.refl _))).trans (by
      refine XS.ifNo X7.here hexec rfl (hb hbytes d22) rfl (i0_eq_f hz) ?_
      refine XS.aloadN X7.here hexec rfl (hb hbytes d25) rfl rfl ?_
      exact Steps.refl _)
    obtain ⟨T9, X9, q9, st9⟩ := X7.hget hexec hown (wk W (.fieldLink "java/lang/String" 15 "java/lang/String" "coder" "B")) (hx.mv X7.warmed.alike hh7).2.2.1 (g := (mkF m 26 #[.val (.ref x), .val (.ref y), .val (.ref y)] [.ref x])) rfl (rest := []) rfl (hb hbytes d26)
    have hh9 := q9.trans hh7
    have c10 : Steps p.tables e below (s₁.setTop (entryFrame m #[.ref x, .ref y] 3)) (T9.setTop (mkF m 30 #[.val (.ref x), .val (.ref y), .val (.ref y)] [.ref y, .int cd])) := (c8.trans (st9 _ (Steps.refl _))).trans (by
      refine XS.aloadN X9.here hexec rfl (hb hbytes d29) rfl rfl ?_
      exact Steps.refl _)
    obtain ⟨T11, X11, q11, st11⟩ := X9.hget hexec hown (wk W (.fieldLink "java/lang/String" 15 "java/lang/String" "coder" "B")) (hy.mv X9.warmed.alike hh9).2.2.1 (g := (mkF m 30 #[.val (.ref x), .val (.ref y), .val (.ref y)] [.ref y, .int cd])) rfl (rest := [.int cd]) rfl (hb hbytes d30)
    have hh11 := q11.trans hh9
    have c12 : Steps p.tables e below (s₁.setTop (entryFrame m #[.ref x, .ref y] 3)) (T11.setTop (mkF m 33 #[.val (.ref x), .val (.ref y), .val (.ref y)] [.int cd', .int cd])) := c10.trans (st11 _ (Steps.refl _))
    by_cases hcd : cd = cd'
    · subst hcd
      have c13 : Steps p.tables e below (s₁.setTop (entryFrame m #[.ref x, .ref y] 3)) (T11.setTop (mkF m 37 #[.val (.ref x), .val (.ref y), .val (.ref y)] [.ref x])) := c12.trans (by
        refine XS.icmpNo X11.here hexec rfl (hb hbytes d33) rfl (ii_ne_f rfl) ?_
        refine XS.aloadN X11.here hexec rfl (hb hbytes d36) rfl rfl ?_
        exact Steps.refl _)
      obtain ⟨T14, X14, q14, st14⟩ := X11.hget hexec hown (wk W (.fieldLink "java/lang/String" 9 "java/lang/String" "value" "[B")) (hx.mv X11.warmed.alike hh11).2.1 (g := (mkF m 37 #[.val (.ref x), .val (.ref y), .val (.ref y)] [.ref x])) rfl (rest := []) rfl (hb hbytes d37)
      have hh14 := q14.trans hh11
      have c15 : Steps p.tables e below (s₁.setTop (entryFrame m #[.ref x, .ref y] 3)) (T14.setTop (mkF m 41 #[.val (.ref x), .val (.ref y), .val (.ref y)] [.ref y, .ref t])) := (c13.trans (st14 _ (Steps.refl _))).trans (by
        refine XS.aloadN X14.here hexec rfl (hb hbytes d40) rfl rfl ?_
        exact Steps.refl _)
      obtain ⟨T16, X16, q16, st16⟩ := X14.hget hexec hown (wk W (.fieldLink "java/lang/String" 9 "java/lang/String" "value" "[B")) (hy.mv X14.warmed.alike hh14).2.1 (g := (mkF m 41 #[.val (.ref x), .val (.ref y), .val (.ref y)] [.ref y, .ref t])) rfl (rest := [.ref t]) rfl (hb hbytes d41)
      have hh16 := q16.trans hh14
      have c17 : Steps p.tables e below (s₁.setTop (entryFrame m #[.ref x, .ref y] 3)) (T16.setTop (mkF m 44 #[.val (.ref x), .val (.ref y), .val (.ref y)] [.ref t', .ref t])) := c15.trans (st16 _ (Steps.refl _))
      obtain ⟨v18, T18, X18, E18, g18⟩ := X16.callS hexec (LEq.law l t V t' V') hown (wks W (staticW "java/lang/String" 541 LEq.yN)) (wk W LEq.tab) (W := 0) (Nat.le_of_ble_eq_true rfl) (Nat.le_of_ble_eq_true rfl) (Nat.le_refl _) (Nat.le_refl _) (g := (mkF m 44 #[.val (.ref x), .val (.ref y), .val (.ref y)] [.ref t', .ref t])) rfl (by rw [hml]; rfl) c17 (argsL := [.ref t, .ref t']) (rest := []) rfl rfl (by show 2 * 0 + 0 ≤ _; decide) (hb hbytes d44) (⟨rfl, hx.2.2.2.1.mv X16.warmed.alike hh16, hx.2.2.2.2.1.ty, hy.2.2.2.1.mv X16.warmed.alike hh16, hy.2.2.2.2.1.ty⟩)
      obtain ⟨v, rfl, q18, hv⟩ := E18
      have iff := Cod.eqv hx.2.2.2.2.1 hy.2.2.2.2.1 hx.2.2.2.2.2 hy.2.2.2.2.2
      rcases hv with ⟨rfl, he⟩ | ⟨rfl, he⟩
      · have c19 : Steps p.tables e below (s₁.setTop (entryFrame m #[.ref x, .ref y] 3)) (T18.setTop (mkF m 55 #[.val (.ref x), .val (.ref y), .val (.ref y)] [.int 1])) := Steps.trans g18 (by
          refine XS.ifNo X18.here hexec rfl (hb hbytes d47) rfl (i0_eq_f (by decide)) ?_
          refine iconstV X18.here hexec rfl 1 (hb hbytes d50) (by decide) ?_
          refine XS.goto X18.here hexec rfl (pc0 := 51) rfl (hb hbytes d51) (by decide) rfl ?_
          exact Steps.refl _)
        exact ⟨T18, some (.int 1), _, _, _, X18, rfl, rfl, rfl, (fun h => by cases h), ⟨1, rfl, q18.trans hh16, Or.inl ⟨rfl, iff.mp he⟩⟩, fun fs hl => c19.trans (X18.ireturnOut hexec hret rfl (Or.inr (Or.inl rfl)) (hb hbytes d55) hl)⟩
      · have c19 : Steps p.tables e below (s₁.setTop (entryFrame m #[.ref x, .ref y] 3)) (T18.setTop (mkF m 55 #[.val (.ref x), .val (.ref y), .val (.ref y)] [.int 0])) := Steps.trans g18 (by
          refine XS.ifYes X18.here hexec rfl (pc0 := 47) rfl (hb hbytes d47) rfl (i0_eq_t rfl) (by decide) rfl ?_
          refine iconstV X18.here hexec rfl 0 (hb hbytes d54) (by decide) ?_
          exact Steps.refl _)
        exact ⟨T18, some (.int 0), _, _, _, X18, rfl, rfl, rfl, (fun h => by cases h), ⟨0, rfl, q18.trans hh16, Or.inr ⟨rfl, fun q => he (iff.mpr q)⟩⟩, fun fs hl => c19.trans (X18.ireturnOut hexec hret rfl (Or.inr (Or.inl rfl)) (hb hbytes d55) hl)⟩
    · have c13 : Steps p.tables e below (s₁.setTop (entryFrame m #[.ref x, .ref y] 3)) (T11.setTop (mkF m 55 #[.val (.ref x), .val (.ref y), .val (.ref y)] [.int 0])) := c12.trans (by
        refine XS.icmpYes X11.here hexec rfl (pc0 := 33) rfl (hb hbytes d33) rfl (ii_ne_t hcd) (by decide) rfl ?_
        refine iconstV X11.here hexec rfl 0 (hb hbytes d54) (by decide) ?_
        exact Steps.refl _)
      exact ⟨T11, some (.int 0), _, _, _, X11, rfl, rfl, rfl, (fun h => by cases h), ⟨0, rfl, hh11, Or.inr ⟨rfl, Cod.dif hx.2.2.2.2.1 hy.2.2.2.2.1 hcd⟩⟩, fun fs hl => c13.trans (X11.ireturnOut hexec hret rfl (Or.inr (Or.inl rfl)) (hb hbytes d55) hl)⟩
theorem pays {l : Launch} {R : Room} {p : Program} {e : Env} {below : List Frame} {s : State} {sargs : Array Value} {len W : Nat} (x t : Addr) (V : Cell) (cd : Int32) (n : Nat) (f : Nat → Int32) (y t' : Addr) (V' : Cell) (cd' : Int32) (k : Nat) (g : Nat → Int32) (z : Int32) (htab : tab.before sargs s = true) (hfr : 2 ≤ R.frames) (hlo : W + 28 ≤ R.locals) :
    Back l R p e below s sargs yN len W (fun A₁ a₁ => A₁.cells + 0 ≤ R.cells ∧ A₁.slots + 0 ≤ R.slots ∧ P x t V cd n f y t' V' cd' k g z a₁ A₁.U) (fun A₁ _ v₁ B₁ => Says01 (SameT n f k g) v₁ A₁.U B₁.U ∧ B₁.locs = A₁.locs ++ [] ∧ B₁.cells = A₁.cells + 0 ∧ B₁.slots = A₁.slots + 0) :=
  (law l x t V cd n f y t' V' cd' k g z).pays htab hfr (by omega)
end SEq
end StrChars
namespace StrChars.Road
open Jvm Sem ClassFile Op Lib Jvm.Stand Jvm.Free Jvm.Free.XT
open Jvm.Lib.Cold (StaticIs)
/-- the words of String.isEmpty() -/
abbrev wordsEmp : List Jvm.Cond := [.code Emp.yN Emp.yB 1 (some .boolean), .initialized ST, .fieldLink ST 9 ST "value" "[B"]
theorem tabEmp_of {a : Array Value} {s : State} (h : ∀ w ∈ wordsEmp, w.before a s = true) : Emp.tab.before a s = true := unparts (wk h (.code Emp.yN Emp.yB 1 (some .boolean))) (wks h (.initialized Emp.yN.cls :: Emp.site))
theorem movedEmp {Z s : State} {a0 args : Array Value} (hZ : Z.Warmed39 s.vm) (hw : ∀ d ∈ wordsEmp, d.before a0 Z = true) : ∀ d ∈ wordsEmp, d.before args s = true := fun d hd => by
  have t : ∀ d ∈ wordsEmp, (d.onTables && d.keepsFace) = true := by decide +kernel
  exact RoadKit.mv hZ (hw d hd) (t d hd)
/-- the words of String.equals(Object) -/
abbrev wordsEq : List Jvm.Cond := [.code SEq.yN SEq.yB 3 (some .boolean), .initialized ST, .classLink ST 10 ST, .fieldLink ST 38 ST "COMPACT_STRINGS" "Z", .fieldLink ST 15 ST "coder" "B", .fieldLink ST 9 ST "value" "[B", .methodLink ST 541 LEq.yN, .static LEq.yN, .code LEq.yN LEq.yB 3 (some .boolean), .initialized "java/lang/StringLatin1"]
theorem tabEq_of {a : Array Value} {s : State} (h : ∀ w ∈ wordsEq, w.before a s = true) : SEq.tab.before a s = true := by
  have hl : LEq.tab.before a s = true := unparts (wk h (.code LEq.yN LEq.yB 3 (some .boolean))) (wks h (.initialized LEq.yN.cls :: LEq.site))
  have q := consq hl h
  exact unparts (wk q (.code SEq.yN SEq.yB 3 (some .boolean))) (wks q (.initialized SEq.yN.cls :: SEq.site))
theorem movedEq {Z s : State} {a0 args : Array Value} (hZ : Z.Warmed39 s.vm) (hw : ∀ d ∈ wordsEq, d.before a0 Z = true) : ∀ d ∈ wordsEq, d.before args s = true := fun d hd => by
  have t : ∀ d ∈ wordsEq, (d.onTables && d.keepsFace) = true := by decide +kernel
  exact RoadKit.mv hZ (hw d hd) (t d hd)
/-- the road's facts of a String, as the laws ask it -/
theorem txt_of {Z U : State} {a0 : Array Value} {kI : Nat} (wi : (Jvm.Cond.instantiable ST kI).before a0 Z = true) (al : Z.vm.Alike U.vm) {x t : Addr} {kb : ClassId} {cs : List Int32} {cd N2 : Int32} {vs : List Value} (E : RoadKit.Exa Z U.heap x ST) (V : RoadKit.Fld Z U.heap x ST "value" "[B" (.ref t)) (C : RoadKit.Fld Z U.heap x ST "coder" "B" (.int cd)) (K : RoadKit.Arv Z U.heap t kb .byte N2 vs (.int 0)) (hc : CodA cs cd N2 vs) (hb : ∀ c ∈ cs, ¬ c < 0 ∧ ¬ (65535 : Int32) < c) (l2 : cs.length ≤ 4000) :
    ∃ A, Txt x t A cd cs.length (fun j => cs.getD j 0) U := by
  obtain ⟨A, K1, K2, K3, K4, K5, K6⟩ := K
  have hcod := hc.cod (by omega) K3 K5
  obtain ⟨D, fV, fC, hB, F1, F2, g1, g2, -, -⟩ := strObj wi al E V C
  exact ⟨A, ⟨_, hB.2.2.1, D, hB.1, rfl, by cases q : D.vm <;> first | rfl | exact absurd q (hB.2.1.2 _)⟩, Has.of hB F1 g1, Has.of hB F2 g2, ⟨K1.1, State.isArrayOf_alike al K1.2.1, K1.2.2, by rcases hcod with ⟨-, q, -⟩ | ⟨-, q, -⟩ <;> omega⟩, hcod, fun j hj => by
    have e : cs.getD j 0 = cs[j] := by simp [List.getD_eq_getElem?_getD, hj]
    show ¬ cs.getD j 0 < 0 ∧ ¬ 65535 < cs.getD j 0
    rw [e]; exact hb _ (List.getElem_mem _)⟩
theorem same_list (cs ds : List Int32) : SameT cs.length (fun j => cs.getD j 0) ds.length (fun j => ds.getD j 0) ↔ cs = ds := by
  constructor
  · rintro ⟨e, q⟩
    refine List.ext_getElem e fun j h1 h2 => ?_
    have := q j h1
    simpa [List.getD_eq_getElem?_getD, h1, h2] using this
  · rintro rfl
    exact ⟨rfl, fun _ _ => rfl⟩
/-- **isEmpty() OF SUCH A STRING** -/
theorem empW {p : Program} {l : Launch} {e : Env} {R : Room} {s : State} {args : Array Value} {below : List Frame} {len W : Nat} {Z : State} {a0 : Array Value} {h : Heap} (hZ : Z.Warmed39 s.vm) (hw : ∀ d ∈ wordsEmp, d.before a0 Z = true) {kI : Nat} (wi : (Jvm.Cond.instantiable ST kI).before a0 Z = true)
    {x t : Addr} {kb : ClassId} {cs : List Int32} {cd N2 : Int32} {vs : List Value} (E : RoadKit.Exa Z h x ST) (V : RoadKit.Fld Z h x ST "value" "[B" (.ref t)) (C : RoadKit.Fld Z h x ST "coder" "B" (.int cd)) (K : RoadKit.Arv Z h t kb .byte N2 vs (.int 0)) (hc : CodA cs cd N2 vs) (hb : ∀ c ∈ cs, ¬ c < 0 ∧ ¬ (65535 : Int32) < c) (l2 : cs.length ≤ 4000) (hfr : 1 ≤ R.frames) (hlo : W + 12 ≤ R.locals) :
    Back l R p e below s args (⟨"java/lang/String", "isEmpty", "()Z"⟩ : MethodName) len W (fun P a => a = #[.ref x] ∧ P.U.heap = h ∧ P.cells + 0 ≤ R.cells ∧ P.slots + 0 ≤ R.slots)
      (fun P _ v B => ∃ L, (v = some (.int (if cs.length = 0 then 1 else 0)) ∧ L = [] ∧ B.U.heap = h) ∧ B.locs = P.locs ++ L ∧ B.cells = P.cells + 0 ∧ B.slots = P.slots + 0) := by
  intro m meth c P g ig mk a X hg hsize hdg hW hn hp'
  obtain ⟨rfl, rfl, r1, r2⟩ := hp'
  have al : Z.vm.Alike P.U.vm := hZ.alike.trans X.warmed.alike
  obtain ⟨A, hx⟩ := txt_of wi al E V C K hc hb l2
  obtain ⟨v, B, X', ⟨⟨hv, hh⟩, hl, hk, hs⟩, st⟩ := Emp.pays x t A cd cs.length (fun j => cs.getD j 0) (tabEmp_of (movedEmp hZ hw)) hfr hlo m meth c P g ig mk _ X hg hsize hdg hW hn ⟨r1, r2, rfl, hx⟩
  exact ⟨v, B, X', ⟨[], ⟨hv, rfl, hh⟩, hl, hk, hs⟩, st⟩
/-- **equals(Object) OF TWO SUCH STRINGS**: 1 just where the chars are the same -/
theorem eqW {p : Program} {l : Launch} {e : Env} {R : Room} {s : State} {args : Array Value} {below : List Frame} {len W : Nat} {Z : State} {a0 : Array Value} {h : Heap} (hZ : Z.Warmed39 s.vm) (hw : ∀ d ∈ wordsEq, d.before a0 Z = true) {kI : Nat} (wi : (Jvm.Cond.instantiable ST kI).before a0 Z = true)
    {x t : Addr} {kb : ClassId} {cs : List Int32} {cd N2 : Int32} {vs : List Value} (E : RoadKit.Exa Z h x ST) (V : RoadKit.Fld Z h x ST "value" "[B" (.ref t)) (C : RoadKit.Fld Z h x ST "coder" "B" (.int cd)) (K : RoadKit.Arv Z h t kb .byte N2 vs (.int 0)) (hc : CodA cs cd N2 vs) (hb : ∀ c ∈ cs, ¬ c < 0 ∧ ¬ (65535 : Int32) < c) (l2 : cs.length ≤ 4000)
    {y t' : Addr} {kb' : ClassId} {ds : List Int32} {cd' N2' : Int32} {vs' : List Value} (E' : RoadKit.Exa Z h y ST) (V' : RoadKit.Fld Z h y ST "value" "[B" (.ref t')) (C' : RoadKit.Fld Z h y ST "coder" "B" (.int cd')) (K' : RoadKit.Arv Z h t' kb' .byte N2' vs' (.int 0)) (hc' : CodA ds cd' N2' vs') (hb' : ∀ c ∈ ds, ¬ c < 0 ∧ ¬ (65535 : Int32) < c) (l2' : ds.length ≤ 4000)
    {z : Int32} (S : RoadKit.Sta Z h ST "COMPACT_STRINGS" "Z" (.int z)) (hz : ¬ z = 0) (hfr : 2 ≤ R.frames) (hlo : W + 28 ≤ R.locals) :
    Back l R p e below s args (⟨"java/lang/String", "equals", "(Ljava/lang/Object;)Z"⟩ : MethodName) len W (fun P a => a = #[.ref x, .ref y] ∧ P.U.heap = h ∧ P.cells + 0 ≤ R.cells ∧ P.slots + 0 ≤ R.slots)
      (fun P _ v B => ∃ L, (((v = some (.int 1) ∧ cs = ds) ∨ (v = some (.int 0) ∧ ¬ cs = ds)) ∧ L = [] ∧ B.U.heap = h) ∧ B.locs = P.locs ++ L ∧ B.cells = P.cells + 0 ∧ B.slots = P.slots + 0) := by
  intro m meth c P g ig mk a X hg hsize hdg hW hn hp'
  obtain ⟨rfl, rfl, r1, r2⟩ := hp'
  have al : Z.vm.Alike P.U.vm := hZ.alike.trans X.warmed.alike
  obtain ⟨A, hx⟩ := txt_of wi al E V C K hc hb l2
  obtain ⟨A', hy⟩ := txt_of wi al E' V' C' K' hc' hb' l2'
  obtain ⟨v, B, X', ⟨⟨w, hv, hh, hq⟩, hl, hk, hs⟩, st⟩ := SEq.pays x t A cd cs.length (fun j => cs.getD j 0) y t' A' cd' ds.length (fun j => ds.getD j 0) z (tabEq_of (movedEq hZ hw)) hfr hlo m meth c P g ig mk _ X hg hsize hdg hW hn ⟨r1, r2, rfl, hx, hy, sta_is al S, hz⟩
  refine ⟨v, B, X', ⟨[], ⟨?_, rfl, hh⟩, hl, hk, hs⟩, st⟩
  rcases hq with ⟨rfl, q⟩ | ⟨rfl, q⟩
  · exact Or.inl ⟨hv, (same_list cs ds).mp q⟩
  · exact Or.inr ⟨hv, fun e => q ((same_list cs ds).mpr e)⟩
end StrChars.Road
namespace StrChars
open Jvm Sem ClassFile Op Lib Jvm.Stand Jvm.Free.XT Jvm.Free.ALB Jvm.Free.JM Jvm.Free
open Jvm.Lib.Cold (StaticIs)
namespace ChN
def yN : MethodName := ⟨"java/lang/String", "charAt", "(I)C"⟩
abbrev yB : ByteArray := jdk_42_method_56_code
theorem d0 : decode yB 0 = .ok (.aload_n 0, 1) := by decide +kernel
theorem d1 : decode yB 1 = .ok (.invokevirtual 492, 3) := by decide +kernel
theorem d4 : decode yB 4 = .ok (.ifCond (.eq) 12, 3) := by decide +kernel
theorem d7 : decode yB 7 = .ok (.aload_n 0, 1) := by decide +kernel
theorem d8 : decode yB 8 = .ok (.getfield 9, 3) := by decide +kernel
theorem d11 : decode yB 11 = .ok (.iload_n 1, 1) := by decide +kernel
theorem d12 : decode yB 12 = .ok (.invokestatic 495, 3) := by decide +kernel
theorem d15 : decode yB 15 = .ok (.ireturn, 1) := by decide +kernel
def site : List Cond := [.fieldLink "java/lang/String" 9 "java/lang/String" "value" "[B", IsL.tab, LChA.tab] ++ virtW "java/lang/String" 492 "java/lang/String" IsL.yN IsL.yN ++ staticW "java/lang/String" 495 LChA.yN
def tab : Cond := tabOf yN yB 2 (some .char) site
def P (x t : Addr) (V : Cell) (n : Nat) (f : Nat → Int32) (z : Int32) (fm : Value) (i : Nat) (args : Array Value) (s : State) : Prop := args = #[.ref x, .int (Int32.ofNat i)] ∧ Txt x t V 0 n f s ∧ i < n ∧ StaticIs s "java/lang/String" "COMPACT_STRINGS" "Z" (.int z) ∧ ¬ z = 0 ∧ StaticIs s "jdk/internal/util/Preconditions" "SIOOBE_FORMATTER" "Ljava/util/function/BiFunction;" fm ∧ fm.isRef = true
def E (f : Nat → Int32) (i : Nat) (r : Option Value) (s u : State) : Prop := XT.PureE (some (.int (f i))) r s u
/-- charAt(i) of a Latin-1 String of n chars, i < n: f i -/
theorem law (l : Launch) (x t : Addr) (V : Cell) (n : Nat) (f : Nat → Int32) (z : Int32) (fm : Value) (i : Nat) : Law l yN 2 1 3 40 yB 2 (some .char) site (P x t V n f z fm i) (E f i) [] 0 0 := by
  refine Law.of_walk (plainFor_of_name (by decide +kernel)) (by decide +kernel) (by decide +kernel) (by decide) (fun _ _ h => by rw [h.1]; rfl) (fun _ U U' hal hh h => ⟨h.1, h.2.1.mv hal hh, h.2.2.1, h.2.2.2.1.there hal hh, h.2.2.2.2.1, h.2.2.2.2.2.1.there hal hh, h.2.2.2.2.2.2⟩) (fun r U U' V V' h1 hal h2 h => XT.PureE.mv r U U' V V' h1 hal h2 h) ?_
  intro p e s m args below meth c s₁ X0 hexec hbytes hml hret hlk hnm hown hh0 W hP
  obtain ⟨rfl, hx, hi, s1, hz, s3, rf⟩ := hP
  have v31 := hx.2.2.2.1.2.2.2
  have hr := hx.2.2.2.2.2 i hi
  have hx0 := hx.mv X0.warmed.alike hh0
  have c1 : Steps p.tables e below (s₁.setTop (entryFrame m #[.ref x, .int (Int32.ofNat i)] 2)) (s₁.setTop (mkF m 1 #[.val (.ref x), .val (.int (Int32.ofNat i))] [.ref x])) := Steps.trans (entry rfl) (by
    show Steps p.tables e below (s₁.setTop (mkF m 0 #[.val (.ref x), .val (.int (Int32.ofNat i))] [])) _
    refine XS.aloadN X0.here hexec rfl (hb hbytes d0) rfl rfl ?_
    exact Steps.refl _)
  obtain ⟨v2, T2, X2, E2, g2⟩ := X0.callV hexec (IsL.law l x 0 z) hown (wks W (virtW "java/lang/String" 492 "java/lang/String" IsL.yN IsL.yN)) rfl (by decide) (wk W IsL.tab) (W := 0) (Nat.le_of_ble_eq_true rfl) (Nat.le_of_ble_eq_true rfl) (Nat.le_refl _) (Nat.le_refl _) (hx0.1.fc X0.warmed.alike) hx0.1.is (g := (mkF m 1 #[.val (.ref x), .val (.int (Int32.ofNat i))] [.ref x])) rfl (by rw [hml]; rfl) c1 (argsL := []) (rest := []) rfl rfl (by show 2 * 0 + 0 ≤ _; decide) (hb hbytes d1) (⟨rfl, hx0.2.2.1, hx.2.2.2.2.1.cd, s1.there X0.warmed.alike hh0, hz⟩)
  obtain ⟨rfl, q2⟩ := E2
  have hh2 := q2.trans hh0
  have hx2 := hx.mv X2.warmed.alike hh2
  obtain ⟨-, k1, k2⟩ | ⟨k0, -⟩ := hx.2.2.2.2.1
  · have c3 : Steps p.tables e below (s₁.setTop (entryFrame m #[.ref x, .int (Int32.ofNat i)] 2)) (T2.setTop (mkF m 8 #[.val (.ref x), .val (.int (Int32.ofNat i))] [.ref x])) := Steps.trans g2 (by
      refine XS.ifNo X2.here hexec rfl (hb hbytes d4) rfl (i0_eq_f (by decide)) ?_
      refine XS.aloadN X2.here hexec rfl (hb hbytes d7) rfl rfl ?_
      exact Steps.refl _)
    obtain ⟨T4, X4, q4, st4⟩ := X2.hget hexec hown (wk W (.fieldLink "java/lang/String" 9 "java/lang/String" "value" "[B")) hx2.2.1 (g := (mkF m 8 #[.val (.ref x), .val (.int (Int32.ofNat i))] [.ref x])) rfl (rest := []) rfl (hb hbytes d8)
    have hh4 := q4.trans hh2
    have c5 : Steps p.tables e below (s₁.setTop (entryFrame m #[.ref x, .int (Int32.ofNat i)] 2)) (T4.setTop (mkF m 12 #[.val (.ref x), .val (.int (Int32.ofNat i))] [.int (Int32.ofNat i), .ref t])) := (c3.trans (st4 _ (Steps.refl _))).trans (by
      refine XS.iloadN X4.here hexec rfl (hb hbytes d11) rfl ?_
      exact Steps.refl _)
    obtain ⟨v6, T6, X6, E6, g6⟩ := X4.callS hexec (LChA.law l t V i (lo8 (f i)) fm) hown (wks W (staticW "java/lang/String" 495 LChA.yN)) (wk W LChA.tab) (W := 0) (Nat.le_of_ble_eq_true rfl) (Nat.le_of_ble_eq_true rfl) (Nat.le_refl _) (Nat.le_refl _) (g := (mkF m 12 #[.val (.ref x), .val (.int (Int32.ofNat i))] [.int (Int32.ofNat i), .ref t])) rfl (by rw [hml]; rfl) c5 (argsL := [.ref t, .int (Int32.ofNat i)]) (rest := []) rfl rfl (by show 2 * 0 + 0 ≤ _; decide) (hb hbytes d12) (⟨rfl, hx.2.2.2.1.mv X4.warmed.alike hh4, (k2 i hi).1, s3.there X4.warmed.alike hh4, rf⟩)
    obtain ⟨rfl, q6⟩ := E6
    rw [chr8_lo8 hr.1 (k2 i hi).2] at g6
    exact ⟨T6, some (.int (f i)), _, _, _, X6, rfl, rfl, rfl, (fun h => by cases h), ⟨rfl, q6.trans hh4⟩, fun fs hl => Steps.trans g6 (X6.ireturnOut hexec hret (narrow_ch hr.1 hr.2) (Or.inr (Or.inr (Or.inr (Or.inl rfl)))) (hb hbytes d15) hl)⟩
  · exact absurd k0 (by decide)
theorem pays {l : Launch} {R : Room} {p : Program} {e : Env} {below : List Frame} {s : State} {sargs : Array Value} {len W : Nat} (x t : Addr) (V : Cell) (n : Nat) (f : Nat → Int32) (z : Int32) (fm : Value) (i : Nat) (htab : tab.before sargs s = true) (hfr : 4 ≤ R.frames) (hlo : W + 53 ≤ R.locals) :
    Back l R p e below s sargs yN len W (fun A₁ a₁ => A₁.cells + 0 ≤ R.cells ∧ A₁.slots + 0 ≤ R.slots ∧ P x t V n f z fm i a₁ A₁.U) (fun A₁ _ v₁ B₁ => E f i v₁ A₁.U B₁.U ∧ B₁.locs = A₁.locs ++ [] ∧ B₁.cells = A₁.cells + 0 ∧ B₁.slots = A₁.slots + 0) :=
  (law l x t V n f z fm i).pays htab hfr (by omega)
end ChN
end StrChars
namespace StrChars.Road
open Jvm Sem ClassFile Op Lib Jvm.Stand Jvm.Free Jvm.Free.XT
open Jvm.Lib.Cold (StaticIs)
/-- the words of String.charAt(int), the Latin-1 road alone -/
abbrev wordsChN : List Jvm.Cond := [.code ChN.yN ChN.yB 2 (some .char), .initialized ST, .fieldLink ST 9 ST "value" "[B", .fieldLink ST 38 ST "COMPACT_STRINGS" "Z", .fieldLink ST 15 ST "coder" "B", .code IsL.yN IsL.yB 1 (some .boolean), .methodLink ST 492 IsL.yN, .declares IsL.yN, .selects ST IsL.yN IsL.yN, .instanceMethod IsL.yN,
  .methodLink ST 495 LChA.yN, .static LChA.yN, .code LChA.yN LChA.yB 2 (some .char), .initialized "java/lang/StringLatin1", .methodLink "java/lang/StringLatin1" 9 JO.Str_checkIndex.yN, .static JO.Str_checkIndex.yN, .code JO.Str_checkIndex.yN JO.Str_checkIndex.yB 2 none,
  .fieldLink ST 1053 "jdk/internal/util/Preconditions" "SIOOBE_FORMATTER" "Ljava/util/function/BiFunction;", .methodLink ST 1059 JC.PreCheck.yN, .static JC.PreCheck.yN, .code JC.PreCheck.yN JC.PreCheck.yB 3 (some .int), .initialized "jdk/internal/util/Preconditions"]
theorem tabChN_of {a : Array Value} {s : State} (h : ∀ w ∈ wordsChN, w.before a s = true) : ChN.tab.before a s = true := by
  have hp : JC.PreCheck.tab.before a s = true := unparts (wk h (.code JC.PreCheck.yN JC.PreCheck.yB 3 (some .int))) (wks h (.initialized JC.PreCheck.yN.cls :: JC.PreCheck.site))
  have qk := consq hp h
  have hk : JO.Str_checkIndex.tab.before a s = true := unparts (wk qk (.code JO.Str_checkIndex.yN JO.Str_checkIndex.yB 2 none)) (wks qk (.initialized JO.Str_checkIndex.yN.cls :: JO.Str_checkIndex.site))
  have ql := consq hk h
  have hl : LChA.tab.before a s = true := unparts (wk ql (.code LChA.yN LChA.yB 2 (some .char))) (wks ql (.initialized LChA.yN.cls :: LChA.site))
  have hi : IsL.tab.before a s = true := unparts (wk h (.code IsL.yN IsL.yB 1 (some .boolean))) (wks h (.initialized IsL.yN.cls :: IsL.site))
  have q := consq hi (consq hl h)
  exact unparts (wk q (.code ChN.yN ChN.yB 2 (some .char))) (wks q (.initialized ChN.yN.cls :: ChN.site))
theorem movedChN {Z s : State} {a0 args : Array Value} (hZ : Z.Warmed39 s.vm) (hw : ∀ d ∈ wordsChN, d.before a0 Z = true) : ∀ d ∈ wordsChN, d.before args s = true := fun d hd => by
  have t : ∀ d ∈ wordsChN, (d.onTables && d.keepsFace) = true := by decide +kernel
  exact RoadKit.mv hZ (hw d hd) (t d hd)
/-- **charAt(i) OF A LATIN-1 STRING**, i < n: the char -/
theorem chN {p : Program} {l : Launch} {e : Env} {R : Room} {s : State} {args : Array Value} {below : List Frame} {len W : Nat} {Z : State} {a0 : Array Value} {h : Heap} (hZ : Z.Warmed39 s.vm) (hw : ∀ d ∈ wordsChN, d.before a0 Z = true) {kI : Nat} (wi : (Jvm.Cond.instantiable ST kI).before a0 Z = true)
    {x t : Addr} {kb : ClassId} {cs : List Int32} {N2 z : Int32} {vs : List Value} {fm : Value} {i : Nat} {j : Int32} (E : RoadKit.Exa Z h x ST) (V : RoadKit.Fld Z h x ST "value" "[B" (.ref t)) (C : RoadKit.Fld Z h x ST "coder" "B" (.int 0)) (K : RoadKit.Arv Z h t kb .byte N2 vs (.int 0)) (hc : CodA cs 0 N2 vs) (hb : ∀ c ∈ cs, ¬ c < 0 ∧ ¬ (65535 : Int32) < c)
    (S : RoadKit.Sta Z h ST "COMPACT_STRINGS" "Z" (.int z)) (hz : ¬ z = 0) (F : RoadKit.Sta Z h "jdk/internal/util/Preconditions" "SIOOBE_FORMATTER" "Ljava/util/function/BiFunction;" fm) (rf : fm.isRef = true) (l2 : cs.length ≤ 4000) (hi : i < cs.length) (hj : j = Int32.ofNat i) (hfr : 4 ≤ R.frames) (hlo : W + 53 ≤ R.locals) :
    Back l R p e below s args (⟨"java/lang/String", "charAt", "(I)C"⟩ : MethodName) len W (fun P a => a = #[.ref x, .int j] ∧ P.U.heap = h ∧ P.cells + 0 ≤ R.cells ∧ P.slots + 0 ≤ R.slots)
      (fun P _ v B => ∃ L, (v = some (.int (cs.getD i 0)) ∧ L = [] ∧ B.U.heap = h) ∧ B.locs = P.locs ++ L ∧ B.cells = P.cells + 0 ∧ B.slots = P.slots + 0) := by
  subst hj
  intro m meth c P g ig mk a X hg hsize hdg hW hn hp'
  obtain ⟨rfl, rfl, r1, r2⟩ := hp'
  have al : Z.vm.Alike P.U.vm := hZ.alike.trans X.warmed.alike
  obtain ⟨A, hx⟩ := txt_of wi al E V C K hc hb l2
  obtain ⟨v, B, X', ⟨⟨hv, hh⟩, hl, hk, hs⟩, st⟩ := ChN.pays x t A cs.length (fun j => cs.getD j 0) z fm i (tabChN_of (movedChN hZ hw)) hfr hlo m meth c P g ig mk _ X hg hsize hdg hW hn ⟨r1, r2, rfl, hx, hi, sta_is al S, hz, sta_is al F, rf⟩
  exact ⟨v, B, X', ⟨[], ⟨hv, rfl, hh⟩, hl, hk, hs⟩, st⟩
/-- what backV says of its String, as the contracts of this text ask it: cs's low bytes, coder 0 -/
theorem codOf {cs : List Int32} {n : Nat} (hn : cs.length = n) (hb : ∀ c ∈ cs, ¬ 255 < c) : CodA cs 0 (Int32.ofNat n) ((cs.map lo8).map Value.int) := Or.inl ⟨rfl, by rw [hn], by simp [List.map_map, Function.comp_def], hb⟩
end StrChars.Road
end Jvm.Pilot.@@N@@
namespace Jvm.Pilot.@@N@@
open Jvm Jvm.ClassFile Sem Op Lib Jvm.Free Jvm.Stand Jvm.LawKit Jvm.RoadKit Bundle Jvm.Pilot.@@N@@.Jvm.D
section Own
variable {p : Program} {l : Launch} {e : Env} {R : Room} {s : State} {m : MethodId} {args : Array Value} {below : List Frame} {meth : Method} {c : Code} {T : State} {locs : List Loc} {cells slots : Nat} {Z : State} {a0 : Array Value} {h : Heap}
/-- from S the invocation ends, and G holds of the end -/
def Gl (p : Program) (e : Env) (below : List Frame) (G : State → Outcome → Prop) (S : State) : Prop :=
  ∃ s₂ o, Steps p.tables e below S s₂ ∧ s₂.status = .running ∧ Ended s₂ below o ∧ G s₂ o
theorem Gl.of {G : State → Outcome → Prop} {S S' : State} (h : ∀ t, Steps p.tables e below S' t → Steps p.tables e below S t) (g : Gl p e below G S') : Gl p e below G S := by
  obtain ⟨s2, o, a, b⟩ := g
  exact ⟨s2, o, h _ a, b⟩
def Gd (s : State) (Q : Option Value → Heap → List Loc → Prop) (C N : Nat) (t : State) (o : Outcome) : Prop := ∃ v L, o = .returned v ∧ Q v t.heap L ∧ FrameEnd s o t L C N
def Con (l : Launch) (Z : State) (y : MethodName) (bytes : ByteArray) (maxL : Nat) (rt : Option FieldType) (ws : List Jvm.Cond) (rm : Room) (C N : Nat) (as : Array Value) (h : Heap) (Q : Option Value → Heap → List Loc → Prop) : Prop :=
  MetFree l y (head1 (Jvm.Cond.code y bytes maxL rt :: ws) rm) (fun a U => a = as ∧ Z.Warmed39 U.vm ∧ U.heap = h) (fun _ _ _ _ _ => True) (fun _ U o U' => ∃ v L, o = .returned v ∧ Q v U'.heap L ∧ FrameEnd U o U' L C N)
theorem Con.intro {y : MethodName} {bytes : ByteArray} {maxL : Nat} {rt : Option FieldType} {ws : List Jvm.Cond} {rm : Room} {C N : Nat} {as : Array Value} {Q : Option Value → Heap → List Loc → Prop} (hp : plainFor y = true)
    (body : ∀ p e s m below meth c s₁, Stand p l e rm s m as below meth c s₁ [] 0 0 → p.tables.exec = Jvm.exec → c.code = bytes → c.maxLocals = maxL → Z.Warmed39 s.vm → s.vm.findClass y.cls = some m.cls → meth.name = y.name → meth.sig.returnType = rt → meth.locks = false → s₁.heap = h → s.heap = h →
      Gl p e below (Gd s Q C N) (s₁.setTop (entryFrame m as maxL))) : Con l Z y bytes maxL rt ws rm C N as h Q := by
  refine MetFree.of_bodySF hp hisR ?_
  intro p e s m args below meth c s₁ Bd hml0 hP hK
  obtain ⟨rfl, hZ, hh⟩ := hP
  exact body p e s m below meth c s₁ (Stand.of_body Bd) Bd.exec Bd.bytes hml0 hZ (findClass_of_methodNamed Bd.named) (name_of_methodNamed Bd.named Bd.method).1 Bd.returns (BodyLoose.notSynchronized Bd) (by rw [← hh, Bd.state]; rfl) hh
theorem Gl.leaf {Q : Option Value → Heap → List Loc → Prop} {C N : Nat} (X : Stand p l e R s m args below meth c T locs cells slots) (hlk : meth.locks = false) {v : Option Value} (hv : meth.sig.returnType = none → v = none) {S : State}
    (st : ∀ fs, (∀ (f : JFrame) (acts : List Action), f.method = m → f.locked = none → f.entered = [] → (doReturn e (T.setTop f) acts v).1 = T.setFrames fs) → Steps p.tables e below S (T.setFrames fs)) (eT : T.heap = h) (hQ : Q v h locs) (hC : cells ≤ C) (hN : slots ≤ N) : Gl p e below (Gd s Q C N) S := by
  obtain ⟨fs, hr, hrun, hended, hW, hsame⟩ := X.leave (v := v) hv hlk
  exact ⟨_, _, st fs hr, hrun, hended, v, locs, rfl, by show Q v T.heap locs; rw [eT]; exact hQ, ⟨_, rfl⟩, hW, hsame.mono hC hN⟩
/-- ireturn of an int -/
theorem Gl.retI {Q : Option Value → Heap → List Loc → Prop} {C N : Nat} (X : Stand p l e R s m args below meth c T locs cells slots) (hx : p.tables.exec = Jvm.exec) (hlk : meth.locks = false) (hret : meth.sig.returnType = some .int) {pc : Nat} {Ls : Array Slot} {z : Int32} {rest : List Value} (hd : decode c.code pc = .ok (.ireturn, 1))
    (eT : T.heap = h) (hQ : Q (some (.int z)) h locs) (hC : cells ≤ C) (hN : slots ≤ N) : Gl p e below (Gd s Q C N) (T.setTop (mkF m pc Ls (.int z :: rest))) :=
  Gl.leaf X hlk (fun q => by rw [hret] at q; cases q) (fun fs hr => retOut X hx hret rfl (Or.inl ⟨rfl, Or.inl rfl, z, rfl⟩) hd hr) eT hQ hC hN
/-- ireturn of a boolean, byte, char, short -/
theorem Gl.retN {Q : Option Value → Heap → List Loc → Prop} {C N : Nat} (X : Stand p l e R s m args below meth c T locs cells slots) (hx : p.tables.exec = Jvm.exec) (hlk : meth.locks = false) {t : FieldType} (hret : meth.sig.returnType = some t) (ht : t = .boolean ∨ t = .byte ∨ t = .char ∨ t = .short) {pc : Nat} {Ls : Array Slot} {z : Int32} {rest : List Value} (hd : decode c.code pc = .ok (.ireturn, 1))
    (eT : T.heap = h) (hQ : Q (some (.int (nar t z))) h locs) (hC : cells ≤ C) (hN : slots ≤ N) : Gl p e below (Gd s Q C N) (T.setTop (mkF m pc Ls (.int z :: rest))) :=
  Gl.leaf X hlk (fun q => by rw [hret] at q; cases q) (fun fs hr => Jvm.RoadKit.retN X hx hret ht hd hr) eT hQ hC hN
/-- areturn -/
theorem Gl.retR {Q : Option Value → Heap → List Loc → Prop} {C N : Nat} (X : Stand p l e R s m args below meth c T locs cells slots) (hx : p.tables.exec = Jvm.exec) (hlk : meth.locks = false) {t : FieldType} (hret : meth.sig.returnType = some t) (ht : t.isReference = true) {pc : Nat} {Ls : Array Slot} {w : Value} (hw : w.isRef = true) {rest : List Value} (hd : decode c.code pc = .ok (.areturn, 1))
    (eT : T.heap = h) (hQ : Q (some w) h locs) (hC : cells ≤ C) (hN : slots ≤ N) : Gl p e below (Gd s Q C N) (T.setTop (mkF m pc Ls (w :: rest))) :=
  Gl.leaf X hlk (fun q => by rw [hret] at q; cases q) (fun fs hr => retOut X hx hret (by cases t <;> first | (cases ht; done) | (rcases ref_cases hw with rfl | ⟨_, rfl⟩ <;> rfl)) (Or.inr (Or.inr (Or.inr (Or.inr ⟨rfl, ht, hw⟩)))) hd hr) eT hQ hC hN
/-- dreturn -/
theorem Gl.retD {Q : Option Value → Heap → List Loc → Prop} {C N : Nat} (X : Stand p l e R s m args below meth c T locs cells slots) (hx : p.tables.exec = Jvm.exec) (hlk : meth.locks = false) (hret : meth.sig.returnType = some .double) {pc : Nat} {Ls : Array Slot} {z : UInt64} {rest : List Value} (hd : decode c.code pc = .ok (.dreturn, 1))
    (eT : T.heap = h) (hQ : Q (some (.double z)) h locs) (hC : cells ≤ C) (hN : slots ≤ N) : Gl p e below (Gd s Q C N) (T.setTop (mkF m pc Ls (.double z :: rest))) :=
  Gl.leaf X hlk (fun q => by rw [hret] at q; cases q) (fun fs hr => retOut X hx hret rfl (Or.inr (Or.inr (Or.inl ⟨rfl, rfl, z, rfl⟩))) hd hr) eT hQ hC hN
/-- return -/
theorem Gl.ret0 {Q : Option Value → Heap → List Loc → Prop} {C N : Nat} (X : Stand p l e R s m args below meth c T locs cells slots) (hx : p.tables.exec = Jvm.exec) (hlk : meth.locks = false) (hret : meth.sig.returnType = none) {pc : Nat} {Ls : Array Slot} (hd : decode c.code pc = .ok (.return_, 1))
    (eT : T.heap = h) (hQ : Q none h locs) (hC : cells ≤ C) (hN : slots ≤ N) : Gl p e below (Gd s Q C N) (T.setTop (mkF m pc Ls [])) :=
  Gl.leaf X hlk (fun _ => rfl) (fun fs hr => X.returnOut hx hret hd hr) eT hQ hC hN
/-- the end of a walk that may have interned -/
def GdW (s : State) (Q : Option Value → Heap → List Loc → Prop) (C N : Nat) (t : State) (o : Outcome) : Prop := ∃ v L, o = .returned v ∧ Q v t.heap L ∧ ReturnedEndW s o t L C N
def ConW (l : Launch) (Z : State) (y : MethodName) (bytes : ByteArray) (maxL : Nat) (rt : Option FieldType) (ws : List Jvm.Cond) (rm : Room) (C N : Nat) (as : Array Value) (h : Heap) (Q : Option Value → Heap → List Loc → Prop) : Prop :=
  MetFree l y (head1 (Jvm.Cond.code y bytes maxL rt :: ws) rm) (fun a U => a = as ∧ Z.Warmed39 U.vm ∧ U.heap = h) (fun _ _ _ _ _ => True) (fun _ U o U' => ∃ v L, o = .returned v ∧ Q v U'.heap L ∧ ReturnedEndW U o U' L C N)
theorem ConW.intro {y : MethodName} {bytes : ByteArray} {maxL : Nat} {rt : Option FieldType} {ws : List Jvm.Cond} {rm : Room} {C N : Nat} {as : Array Value} {Q : Option Value → Heap → List Loc → Prop} (hp : plainFor y = true)
    (body : ∀ p e s m below meth c s₁, Stand p l e rm s m as below meth c s₁ [] 0 0 → p.tables.exec = Jvm.exec → c.code = bytes → c.maxLocals = maxL → Z.Warmed39 s.vm → s.vm.findClass y.cls = some m.cls → meth.name = y.name → meth.sig.returnType = rt → meth.locks = false → s₁.heap = h → s.heap = h →
      Gl p e below (GdW s Q C N) (s₁.setTop (entryFrame m as maxL))) : ConW l Z y bytes maxL rt ws rm C N as h Q := by
  refine MetFree.of_bodySF hp hisR ?_
  intro p e s m args below meth c s₁ Bd hml0 hP hK
  obtain ⟨rfl, hZ, hh⟩ := hP
  exact body p e s m below meth c s₁ (Stand.of_body Bd) Bd.exec Bd.bytes hml0 hZ (findClass_of_methodNamed Bd.named) (name_of_methodNamed Bd.named Bd.method).1 Bd.returns (BodyLoose.notSynchronized Bd) (by rw [← hh, Bd.state]; rfl) hh
theorem Gl.leafW {Q : Option Value → Heap → List Loc → Prop} {C N n : Nat} {vm₁ : Vm} (X : Stand p l e R (s.setVm vm₁) m args below meth c T locs cells slots) (hlk : meth.locks = false) {v : Option Value} (hv : meth.sig.returnType = none → v = none) {S : State}
    (st : ∀ fs, (∀ (f : JFrame) (acts : List Action), f.method = m → f.locked = none → f.entered = [] → (doReturn e (T.setTop f) acts v).1 = T.setFrames fs) → Steps p.tables e below S (T.setFrames fs)) (eT : T.heap = h) (hQ : Q v h locs) (hS : s.Since vm₁ n) (hn : n ≤ h.size) (hC : cells ≤ C) (hN : slots ≤ N) : Gl p e below (GdW s Q C N) S := by
  obtain ⟨fs, hr, hrun, hended, hW⟩ := X.leaveW hS (by rw [eT]; exact hn) (v := v) hv hlk
  exact ⟨_, _, st fs hr, hrun, hended, v, locs, rfl, by show Q v T.heap locs; rw [eT]; exact hQ, hW.1, hW.2.1, hW.2.2.1, hW.2.2.2.mono hC hN⟩
theorem Gl.retNW {Q : Option Value → Heap → List Loc → Prop} {C N n : Nat} {vm₁ : Vm} (X : Stand p l e R (s.setVm vm₁) m args below meth c T locs cells slots) (hx : p.tables.exec = Jvm.exec) (hlk : meth.locks = false) {t : FieldType} (hret : meth.sig.returnType = some t) (ht : t = .boolean ∨ t = .byte ∨ t = .char ∨ t = .short) {pc : Nat} {Ls : Array Slot} {z : Int32} {rest : List Value} (hd : decode c.code pc = .ok (.ireturn, 1))
    (eT : T.heap = h) (hQ : Q (some (.int (nar t z))) h locs) (hS : s.Since vm₁ n) (hn : n ≤ h.size) (hC : cells ≤ C) (hN : slots ≤ N) : Gl p e below (GdW s Q C N) (T.setTop (mkF m pc Ls (.int z :: rest))) :=
  Gl.leafW X hlk (fun q => by rw [hret] at q; cases q) (fun fs hr => Jvm.RoadKit.retN X hx hret ht hd hr) eT hQ hS hn hC hN
theorem Gl.retRW {Q : Option Value → Heap → List Loc → Prop} {C N n : Nat} {vm₁ : Vm} (X : Stand p l e R (s.setVm vm₁) m args below meth c T locs cells slots) (hx : p.tables.exec = Jvm.exec) (hlk : meth.locks = false) {t : FieldType} (hret : meth.sig.returnType = some t) (ht : t.isReference = true) {pc : Nat} {Ls : Array Slot} {w : Value} (hw : w.isRef = true) {rest : List Value} (hd : decode c.code pc = .ok (.areturn, 1))
    (eT : T.heap = h) (hQ : Q (some w) h locs) (hS : s.Since vm₁ n) (hn : n ≤ h.size) (hC : cells ≤ C) (hN : slots ≤ N) : Gl p e below (GdW s Q C N) (T.setTop (mkF m pc Ls (w :: rest))) :=
  Gl.leafW X hlk (fun q => by rw [hret] at q; cases q) (fun fs hr => retOut X hx hret (by cases t <;> first | (cases ht; done) | (rcases ref_cases hw with rfl | ⟨_, rfl⟩ <;> rfl)) (Or.inr (Or.inr (Or.inr (Or.inr ⟨rfl, ht, hw⟩)))) hd hr) eT hQ hS hn hC hN
theorem Gl.ret0W {Q : Option Value → Heap → List Loc → Prop} {C N n : Nat} {vm₁ : Vm} (X : Stand p l e R (s.setVm vm₁) m args below meth c T locs cells slots) (hx : p.tables.exec = Jvm.exec) (hlk : meth.locks = false) (hret : meth.sig.returnType = none) {pc : Nat} {Ls : Array Slot} (hd : decode c.code pc = .ok (.return_, 1))
    (eT : T.heap = h) (hQ : Q none h locs) (hS : s.Since vm₁ n) (hn : n ≤ h.size) (hC : cells ≤ C) (hN : slots ≤ N) : Gl p e below (GdW s Q C N) (T.setTop (mkF m pc Ls [])) :=
  Gl.leafW X hlk (fun _ => rfl) (fun fs hr => X.returnOut hx hret hd hr) eT hQ hS hn hC hN
theorem ref_nar {r : Value} {C : String} (h : r.isRef = true) : narrow (.object C) r = r := by rcases ref_cases h with rfl | ⟨_, rfl⟩ <;> rfl
theorem ref_fit {r : Value} {C : String} (h : r.isRef = true) : fits (.object C) r = true := by rcases ref_cases h with rfl | ⟨_, rfl⟩ <;> rfl
theorem cat_ref {r : Value} (h : r.isRef = true) : r.category = 1 := by rcases ref_cases h with rfl | ⟨_, rfl⟩ <;> rfl
/-- what a callee that writes and makes nothing leaves -/
def Pur (F : Option Value → Prop) (h0 : Heap) (v : Option Value) (h : Heap) (L : List Loc) : Prop := F v ∧ h = h0 ∧ L = []
theorem desc_ne {n : String} (h : (n == "java/lang/invoke/MethodHandle" || n == "java/lang/invoke/VarHandle") = false) : n ≠ "java/lang/invoke/MethodHandle" ∧ n ≠ "java/lang/invoke/VarHandle" := by
  simp only [Bool.or_eq_false_iff, beq_eq_false_iff_ne, ne_eq] at h
  exact h
/-- a static call by its contract -/
theorem Gl.callS {G : State → Outcome → Prop} (X : Stand p l e R s m args below meth c T locs cells slots) (hx : p.tables.exec = Jvm.exec) (hZ : Z.Warmed39 s.vm) {own : String} {index : Nat} {y : MethodName} {bytes : ByteArray} {maxL : Nat} {rt : Option FieldType} (hown : s.vm.findClass own = some m.cls)
    (w1 : (Jvm.Cond.methodLink own index y).before a0 Z = true) (w2 : (Jvm.Cond.static y).before a0 Z = true) (w3 : (Jvm.Cond.initialized y.cls).before a0 Z = true) (w4 : (Jvm.Cond.code y bytes maxL rt).before a0 Z = true) (hy : y.cls ≠ "java/lang/invoke/MethodHandle" ∧ y.cls ≠ "java/lang/invoke/VarHandle")
    {rm : Room} {Q : Option Value → Heap → List Loc → Prop} {argsL rest : List Value} (hM : Con l Z y bytes maxL rt [] rm rm.cells rm.slots argsL.toArray h Q) (W : Nat) (hf : rm.frames + 1 ≤ R.frames) (hl : W + (maxL + 11) + rm.locals ≤ R.locals) (hcl : cells + rm.cells ≤ R.cells) (hsl : slots + rm.slots ≤ R.slots) (eT : T.heap = h)
    {pc : Nat} {Ls : Array Slot} {st : List Value} (hsz : Ls.size = c.maxLocals) {ps : List FieldType} {r' : Option FieldType} (hds : parseMethodDescriptor y.desc = some ⟨ps, r'⟩) (hlen : argsL.length = ps.length) (hst : st = argsL.reverse ++ rest) (hW : 2 * 0 + (rest.map fun v => v.category).sum ≤ W) (hd : decode c.code pc = .ok (.invokestatic index, 3))
    (k : ∀ (v : Option Value) (T' : State) (L : List Loc), Stand p l e R s m args below meth c T' (locs ++ L) (cells + rm.cells) (slots + rm.slots) → Q v T'.heap L → Gl p e below G (T'.setTop (mkF m (pc + 3) Ls (v.toList ++ rest)))) : Gl p e below G (T.setTop (mkF m pc Ls st)) := by
  obtain ⟨v, _, ⟨T', L', k', n'⟩, -, X', ⟨Lc, hQ, l1, y1, z1⟩, stp⟩ := Jvm.LawKit.callS X hx (y := y) hown (mvT hZ w1) (mvT hZ w2) (mvT hZ w3) (mvT hZ w4) hy (backOf (W := W) hM hZ w4 w3 hf hl) (g := mkF m pc Ls st) rfl hsz (argsL := argsL) (rest := rest) (lenOf hds hlen) hst hW hd (fun _ _ => ⟨rfl, eT, hcl, hsl⟩)
  dsimp only [Pt.U, Pt.locs, Pt.cells, Pt.slots] at X' l1 y1 z1 stp hQ
  subst l1 y1 z1
  exact Gl.of stp (k v T' Lc X' hQ)
theorem Gl.callS0 {G : State → Outcome → Prop} (X : Stand p l e R s m args below meth c T locs cells slots) (hx : p.tables.exec = Jvm.exec) (hZ : Z.Warmed39 s.vm) {own : String} {index : Nat} {y : MethodName} {bytes : ByteArray} {maxL : Nat} {rt : Option FieldType} (hown : s.vm.findClass own = some m.cls)
    (w1 : (Jvm.Cond.methodLink own index y).before a0 Z = true) (w2 : (Jvm.Cond.static y).before a0 Z = true) (w3 : (Jvm.Cond.initialized y.cls).before a0 Z = true) (w4 : (Jvm.Cond.code y bytes maxL rt).before a0 Z = true) (hy : y.cls ≠ "java/lang/invoke/MethodHandle" ∧ y.cls ≠ "java/lang/invoke/VarHandle")
    {fr lo : Nat} {F : Option Value → Prop} {argsL rest : List Value} (hM : Con l Z y bytes maxL rt [] ({ frames := fr, cells := 0, slots := 0, locals := lo } : Room) 0 0 argsL.toArray h (Pur F h)) (W : Nat) (hf : fr + 1 ≤ R.frames) (hl : W + (maxL + 11) + lo ≤ R.locals) (eT : T.heap = h)
    {pc : Nat} {Ls : Array Slot} {st : List Value} (hsz : Ls.size = c.maxLocals) {ps : List FieldType} {r' : Option FieldType} (hds : parseMethodDescriptor y.desc = some ⟨ps, r'⟩) (hlen : argsL.length = ps.length) (hst : st = argsL.reverse ++ rest) (hW : 2 * 0 + (rest.map fun v => v.category).sum ≤ W) (hd : decode c.code pc = .ok (.invokestatic index, 3)) (hcl : cells ≤ R.cells) (hsl : slots ≤ R.slots)
    (k : ∀ (v : Option Value) (T' : State), Stand p l e R s m args below meth c T' locs cells slots → T'.heap = h → F v → Gl p e below G (T'.setTop (mkF m (pc + 3) Ls (v.toList ++ rest)))) : Gl p e below G (T.setTop (mkF m pc Ls st)) := by
  refine Gl.callS X hx hZ hown w1 w2 w3 w4 hy hM W hf hl hcl hsl eT hsz hds hlen hst hW hd ?_
  intro v T' L X' hQ
  obtain ⟨q1, q2, rfl⟩ := hQ
  rw [List.append_nil] at X'
  exact k v T' X' q2 q1
/-- an instance method that the receiver's class selects, by its contract -/
theorem Gl.callV {G : State → Outcome → Prop} (X : Stand p l e R s m args below meth c T locs cells slots) (hx : p.tables.exec = Jvm.exec) (hZ : Z.Warmed39 s.vm) {own C : String} {index : Nat} {y z : MethodName} {bytes : ByteArray} {maxL : Nat} {rt : Option FieldType} (hown : s.vm.findClass own = some m.cls)
    (w1 : (Jvm.Cond.methodLink own index y).before a0 Z = true) (w2 : (Jvm.Cond.declares y).before a0 Z = true) (nf : NotFace s y) (w3 : (Jvm.Cond.selects C y z).before a0 Z = true) (w4 : (Jvm.Cond.instanceMethod z).before a0 Z = true) (w5 : (Jvm.Cond.code z bytes maxL rt).before a0 Z = true) (w6 : (Jvm.Cond.initialized z.cls).before a0 Z = true) (hy : y.cls ≠ "java/lang/invoke/MethodHandle" ∧ y.cls ≠ "java/lang/invoke/VarHandle")
    {rm : Room} {Q : Option Value → Heap → List Loc → Prop} {b : Addr} {argsL rest : List Value} (hE : Exa Z h b C) (hM : Con l Z z bytes maxL rt [] rm rm.cells rm.slots (.ref b :: argsL).toArray h Q) (W : Nat) (hf : rm.frames + 1 ≤ R.frames) (hl : W + (maxL + 11) + rm.locals ≤ R.locals) (hcl : cells + rm.cells ≤ R.cells) (hsl : slots + rm.slots ≤ R.slots) (eT : T.heap = h)
    {pc : Nat} {Ls : Array Slot} {st : List Value} (hsz : Ls.size = c.maxLocals) {ps : List FieldType} {r' : Option FieldType} (hds : parseMethodDescriptor y.desc = some ⟨ps, r'⟩) (hlen : argsL.length = ps.length) (hst : st = argsL.reverse ++ .ref b :: rest) (hW : 2 * 0 + (rest.map fun v => v.category).sum ≤ W) (hd : decode c.code pc = .ok (.invokevirtual index, 3))
    (k : ∀ (v : Option Value) (T' : State) (L : List Loc), Stand p l e R s m args below meth c T' (locs ++ L) (cells + rm.cells) (slots + rm.slots) → Q v T'.heap L → Gl p e below G (T'.setTop (mkF m (pc + 3) Ls (v.toList ++ rest)))) : Gl p e below G (T.setTop (mkF m pc Ls st)) := by
  obtain ⟨cq, kq, qa, qb, qc⟩ := isOf hZ eT hE
  obtain ⟨v, _, ⟨T', L', k', n'⟩, -, X', ⟨Lc, hQ, l1, y1, z1⟩, stp⟩ := X.virtualBack hx (y := y) (z := z) hown (mvT hZ w1) (mvT hZ w2) nf (mvT hZ w3) (mvT hZ w4) hy (backOf (W := W) hM hZ w5 w6 hf hl) qa qc (g := mkF m pc Ls st) rfl hsz (Steps.refl _) (argsL := argsL) (rest := rest) (lenOf hds hlen) hst hW hd (fun _ _ => ⟨rfl, eT, hcl, hsl⟩)
  dsimp only [Pt.U, Pt.locs, Pt.cells, Pt.slots] at X' l1 y1 z1 stp hQ
  subst l1 y1 z1
  exact Gl.of (fun t q => stp.trans q) (k v T' Lc X' hQ)
theorem Gl.callV0 {G : State → Outcome → Prop} (X : Stand p l e R s m args below meth c T locs cells slots) (hx : p.tables.exec = Jvm.exec) (hZ : Z.Warmed39 s.vm) {own C : String} {index : Nat} {y z : MethodName} {bytes : ByteArray} {maxL : Nat} {rt : Option FieldType} (hown : s.vm.findClass own = some m.cls)
    (w1 : (Jvm.Cond.methodLink own index y).before a0 Z = true) (w2 : (Jvm.Cond.declares y).before a0 Z = true) (nf : NotFace s y) (w3 : (Jvm.Cond.selects C y z).before a0 Z = true) (w4 : (Jvm.Cond.instanceMethod z).before a0 Z = true) (w5 : (Jvm.Cond.code z bytes maxL rt).before a0 Z = true) (w6 : (Jvm.Cond.initialized z.cls).before a0 Z = true) (hy : y.cls ≠ "java/lang/invoke/MethodHandle" ∧ y.cls ≠ "java/lang/invoke/VarHandle")
    {fr lo : Nat} {F : Option Value → Prop} {b : Addr} {argsL rest : List Value} (hE : Exa Z h b C) (hM : Con l Z z bytes maxL rt [] ({ frames := fr, cells := 0, slots := 0, locals := lo } : Room) 0 0 (.ref b :: argsL).toArray h (Pur F h)) (W : Nat) (hf : fr + 1 ≤ R.frames) (hl : W + (maxL + 11) + lo ≤ R.locals) (eT : T.heap = h)
    {pc : Nat} {Ls : Array Slot} {st : List Value} (hsz : Ls.size = c.maxLocals) {ps : List FieldType} {r' : Option FieldType} (hds : parseMethodDescriptor y.desc = some ⟨ps, r'⟩) (hlen : argsL.length = ps.length) (hst : st = argsL.reverse ++ .ref b :: rest) (hW : 2 * 0 + (rest.map fun v => v.category).sum ≤ W) (hd : decode c.code pc = .ok (.invokevirtual index, 3)) (hcl : cells ≤ R.cells) (hsl : slots ≤ R.slots)
    (k : ∀ (v : Option Value) (T' : State), Stand p l e R s m args below meth c T' locs cells slots → T'.heap = h → F v → Gl p e below G (T'.setTop (mkF m (pc + 3) Ls (v.toList ++ rest)))) : Gl p e below G (T.setTop (mkF m pc Ls st)) := by
  refine Gl.callV X hx hZ hown w1 w2 nf w3 w4 w5 w6 hy hE hM W hf hl hcl hsl eT hsz hds hlen hst hW hd ?_
  intro v T' L X' hQ
  obtain ⟨q1, q2, rfl⟩ := hQ
  rw [List.append_nil] at X'
  exact k v T' X' q2 q1
/-- a private instance method by its contract -/
theorem Gl.callP {G : State → Outcome → Prop} (X : Stand p l e R s m args below meth c T locs cells slots) (hx : p.tables.exec = Jvm.exec) (hZ : Z.Warmed39 s.vm) {own C : String} {index : Nat} {y : MethodName} {bytes : ByteArray} {maxL : Nat} {rt : Option FieldType} (hown : s.vm.findClass own = some m.cls)
    (w1 : (Jvm.Cond.methodLink own index y).before a0 Z = true) (nf : NotFace s y) (w3 : (Jvm.Cond.privateMethod y).before a0 Z = true) (w4 : (Jvm.Cond.instanceMethod y).before a0 Z = true) (w5 : (Jvm.Cond.code y bytes maxL rt).before a0 Z = true) (w6 : (Jvm.Cond.initialized y.cls).before a0 Z = true) (hy : y.cls ≠ "java/lang/invoke/MethodHandle" ∧ y.cls ≠ "java/lang/invoke/VarHandle")
    {rm : Room} {Q : Option Value → Heap → List Loc → Prop} {b : Addr} {argsL rest : List Value} (hE : Exa Z h b C) (hM : Con l Z y bytes maxL rt [] rm rm.cells rm.slots (.ref b :: argsL).toArray h Q) (W : Nat) (hf : rm.frames + 1 ≤ R.frames) (hl : W + (maxL + 11) + rm.locals ≤ R.locals) (hcl : cells + rm.cells ≤ R.cells) (hsl : slots + rm.slots ≤ R.slots) (eT : T.heap = h)
    {pc : Nat} {Ls : Array Slot} {st : List Value} (hsz : Ls.size = c.maxLocals) {ps : List FieldType} {r' : Option FieldType} (hds : parseMethodDescriptor y.desc = some ⟨ps, r'⟩) (hlen : argsL.length = ps.length) (hst : st = argsL.reverse ++ .ref b :: rest) (hW : 2 * 0 + (rest.map fun v => v.category).sum ≤ W) (hd : decode c.code pc = .ok (.invokevirtual index, 3))
    (k : ∀ (v : Option Value) (T' : State) (L : List Loc), Stand p l e R s m args below meth c T' (locs ++ L) (cells + rm.cells) (slots + rm.slots) → Q v T'.heap L → Gl p e below G (T'.setTop (mkF m (pc + 3) Ls (v.toList ++ rest)))) : Gl p e below G (T.setTop (mkF m pc Ls st)) := by
  obtain ⟨cq, q, q'⟩ := hE.cell
  have hpv := Cond.privateMethod_at (mvP hZ w3 (args := #[]))
  have hin : (Jvm.Cond.instanceMethod y).before args s = true := mvT hZ w4
  obtain ⟨mk, methM, hnamed, hmethM, -, -⟩ := Cond.instanceMethod_spec hin
  obtain ⟨kc, hkc, hkni⟩ := nf mk hnamed
  have hsel : (Jvm.Cond.selects y.cls y y).before args s = true := selects_self_of_private (findClass_of_methodNamed hnamed) hkc hkni hpv hin hy
  obtain ⟨v, _, ⟨T', L', k', n'⟩, -, X', ⟨Lc, hQ, l1, y1, z1⟩, stp⟩ := X.privateBack hx (y := y) hown (mvT hZ w1) hin hsel hpv (mvT hZ w5) hy (backOf (W := W) hM hZ w5 w6 hf hl) (g := mkF m pc Ls st) rfl hsz (Steps.refl _) (a := b) (by rw [eT]; exact q) q' (argsL := argsL) (rest := rest) (lenOf hds hlen) hst hW hd (fun _ _ => ⟨rfl, eT, hcl, hsl⟩)
  dsimp only [Pt.U, Pt.locs, Pt.cells, Pt.slots] at X' l1 y1 z1 stp hQ
  subst l1 y1 z1
  exact Gl.of (fun t q => stp.trans q) (k v T' Lc X' hQ)
theorem Gl.callP0 {G : State → Outcome → Prop} (X : Stand p l e R s m args below meth c T locs cells slots) (hx : p.tables.exec = Jvm.exec) (hZ : Z.Warmed39 s.vm) {own C : String} {index : Nat} {y : MethodName} {bytes : ByteArray} {maxL : Nat} {rt : Option FieldType} (hown : s.vm.findClass own = some m.cls)
    (w1 : (Jvm.Cond.methodLink own index y).before a0 Z = true) (nf : NotFace s y) (w3 : (Jvm.Cond.privateMethod y).before a0 Z = true) (w4 : (Jvm.Cond.instanceMethod y).before a0 Z = true) (w5 : (Jvm.Cond.code y bytes maxL rt).before a0 Z = true) (w6 : (Jvm.Cond.initialized y.cls).before a0 Z = true) (hy : y.cls ≠ "java/lang/invoke/MethodHandle" ∧ y.cls ≠ "java/lang/invoke/VarHandle")
    {fr lo : Nat} {F : Option Value → Prop} {b : Addr} {argsL rest : List Value} (hE : Exa Z h b C) (hM : Con l Z y bytes maxL rt [] ({ frames := fr, cells := 0, slots := 0, locals := lo } : Room) 0 0 (.ref b :: argsL).toArray h (Pur F h)) (W : Nat) (hf : fr + 1 ≤ R.frames) (hl : W + (maxL + 11) + lo ≤ R.locals) (eT : T.heap = h)
    {pc : Nat} {Ls : Array Slot} {st : List Value} (hsz : Ls.size = c.maxLocals) {ps : List FieldType} {r' : Option FieldType} (hds : parseMethodDescriptor y.desc = some ⟨ps, r'⟩) (hlen : argsL.length = ps.length) (hst : st = argsL.reverse ++ .ref b :: rest) (hW : 2 * 0 + (rest.map fun v => v.category).sum ≤ W) (hd : decode c.code pc = .ok (.invokevirtual index, 3)) (hcl : cells ≤ R.cells) (hsl : slots ≤ R.slots)
    (k : ∀ (v : Option Value) (T' : State), Stand p l e R s m args below meth c T' locs cells slots → T'.heap = h → F v → Gl p e below G (T'.setTop (mkF m (pc + 3) Ls (v.toList ++ rest)))) : Gl p e below G (T.setTop (mkF m pc Ls st)) := by
  refine Gl.callP X hx hZ hown w1 nf w3 w4 w5 w6 hy hE hM W hf hl hcl hsl eT hsz hds hlen hst hW hd ?_
  intro v T' L X' hQ
  obtain ⟨q1, q2, rfl⟩ := hQ
  rw [List.append_nil] at X'
  exact k v T' X' q2 q1
/-- a constructor by its contract -/
theorem Gl.callI {G : State → Outcome → Prop} (X : Stand p l e R s m args below meth c T locs cells slots) (hx : p.tables.exec = Jvm.exec) (hZ : Z.Warmed39 s.vm) {own : String} {index : Nat} {y : MethodName} {bytes : ByteArray} {maxL : Nat} (hy1 : y.name = "<init>") (hown : s.vm.findClass own = some m.cls)
    (w1 : (Jvm.Cond.methodLink own index y).before a0 Z = true) (w2 : (Jvm.Cond.instanceMethod y).before a0 Z = true) (w3 : (Jvm.Cond.initialized y.cls).before a0 Z = true) (w4 : (Jvm.Cond.code y bytes maxL none).before a0 Z = true) (hy : y.cls ≠ "java/lang/invoke/MethodHandle" ∧ y.cls ≠ "java/lang/invoke/VarHandle")
    {rm : Room} {Q : Option Value → Heap → List Loc → Prop} {b : Addr} {argsL rest : List Value} (hM : Con l Z y bytes maxL none [] rm rm.cells rm.slots (.ref b :: argsL).toArray h Q) (W : Nat) (hf : rm.frames + 1 ≤ R.frames) (hl : W + (maxL + 11) + rm.locals ≤ R.locals) (hcl : cells + rm.cells ≤ R.cells) (hsl : slots + rm.slots ≤ R.slots) (eT : T.heap = h)
    {pc : Nat} {Ls : Array Slot} {st : List Value} (hsz : Ls.size = c.maxLocals) {ps : List FieldType} {r' : Option FieldType} (hds : parseMethodDescriptor y.desc = some ⟨ps, r'⟩) (hlen : argsL.length = ps.length) (hst : st = argsL.reverse ++ .ref b :: rest) (hW : 2 * 0 + (rest.map fun v => v.category).sum ≤ W) (hd : decode c.code pc = .ok (.invokespecial index, 3))
    (k : ∀ (v : Option Value) (T' : State) (L : List Loc), Stand p l e R s m args below meth c T' (locs ++ L) (cells + rm.cells) (slots + rm.slots) → Q v T'.heap L → Gl p e below G (T'.setTop (mkF m (pc + 3) Ls (v.toList ++ rest)))) : Gl p e below G (T.setTop (mkF m pc Ls st)) := by
  obtain ⟨v, _, ⟨T', L', k', n'⟩, -, X', ⟨Lc, hQ, l1, y1, z1⟩, stp⟩ := X.specialBack hx (y := y) hy1 hown (mvT hZ w1) (mvT hZ w2) (mvT hZ w4) hy (backOf (W := W) hM hZ w4 w3 hf hl) (g := mkF m pc Ls st) rfl hsz (Steps.refl _) (a := b) (argsL := argsL) (rest := rest) (lenOf hds hlen) hst hW hd (fun _ _ => ⟨rfl, eT, hcl, hsl⟩)
  dsimp only [Pt.U, Pt.locs, Pt.cells, Pt.slots] at X' l1 y1 z1 stp hQ
  subst l1 y1 z1
  exact Gl.of (fun t q => stp.trans q) (k v T' Lc X' hQ)
theorem Gl.callI0 {G : State → Outcome → Prop} (X : Stand p l e R s m args below meth c T locs cells slots) (hx : p.tables.exec = Jvm.exec) (hZ : Z.Warmed39 s.vm) {own : String} {index : Nat} {y : MethodName} {bytes : ByteArray} {maxL : Nat} (hy1 : y.name = "<init>") (hown : s.vm.findClass own = some m.cls)
    (w1 : (Jvm.Cond.methodLink own index y).before a0 Z = true) (w2 : (Jvm.Cond.instanceMethod y).before a0 Z = true) (w3 : (Jvm.Cond.initialized y.cls).before a0 Z = true) (w4 : (Jvm.Cond.code y bytes maxL none).before a0 Z = true) (hy : y.cls ≠ "java/lang/invoke/MethodHandle" ∧ y.cls ≠ "java/lang/invoke/VarHandle")
    {fr lo : Nat} {F : Option Value → Prop} {b : Addr} {argsL rest : List Value} (hM : Con l Z y bytes maxL none [] ({ frames := fr, cells := 0, slots := 0, locals := lo } : Room) 0 0 (.ref b :: argsL).toArray h (Pur F h)) (W : Nat) (hf : fr + 1 ≤ R.frames) (hl : W + (maxL + 11) + lo ≤ R.locals) (eT : T.heap = h)
    {pc : Nat} {Ls : Array Slot} {st : List Value} (hsz : Ls.size = c.maxLocals) {ps : List FieldType} {r' : Option FieldType} (hds : parseMethodDescriptor y.desc = some ⟨ps, r'⟩) (hlen : argsL.length = ps.length) (hst : st = argsL.reverse ++ .ref b :: rest) (hW : 2 * 0 + (rest.map fun v => v.category).sum ≤ W) (hd : decode c.code pc = .ok (.invokespecial index, 3)) (hcl : cells ≤ R.cells) (hsl : slots ≤ R.slots)
    (k : ∀ (v : Option Value) (T' : State), Stand p l e R s m args below meth c T' locs cells slots → T'.heap = h → F v → Gl p e below G (T'.setTop (mkF m (pc + 3) Ls (v.toList ++ rest)))) : Gl p e below G (T.setTop (mkF m pc Ls st)) := by
  refine Gl.callI X hx hZ hy1 hown w1 w2 w3 w4 hy hM W hf hl hcl hsl eT hsz hds hlen hst hW hd ?_
  intro v T' L X' hQ
  obtain ⟨q1, q2, rfl⟩ := hQ
  rw [List.append_nil] at X'
  exact k v T' X' q2 q1
/-- a constructor, by a Back -/
theorem Gl.callIB {G : State → Outcome → Prop} (X : Stand p l e R s m args below meth c T locs cells slots) (hx : p.tables.exec = Jvm.exec) (hZ : Z.Warmed39 s.vm) {own : String} {index : Nat} {y : MethodName} {bytes : ByteArray} {maxL : Nat} (hy1 : y.name = "<init>") (hown : s.vm.findClass own = some m.cls)
    (w1 : (Jvm.Cond.methodLink own index y).before a0 Z = true) (w2 : (Jvm.Cond.instanceMethod y).before a0 Z = true) (w4 : (Jvm.Cond.code y bytes maxL none).before a0 Z = true) (hy : y.cls ≠ "java/lang/invoke/MethodHandle" ∧ y.cls ≠ "java/lang/invoke/VarHandle")
    {C N W : Nat} (Q : Option Value → Heap → List Loc → Prop) {b : Addr} {argsL rest : List Value} (hK : Back l R p e below s args y 3 W (fun A a => a = (Value.ref b :: argsL).toArray ∧ A.U.heap = h ∧ A.cells + C ≤ R.cells ∧ A.slots + N ≤ R.slots) (fun A _ v B => ∃ L, Q v B.U.heap L ∧ B.locs = A.locs ++ L ∧ B.cells = A.cells + C ∧ B.slots = A.slots + N)) (hcl : cells + C ≤ R.cells) (hsl : slots + N ≤ R.slots) (eT : T.heap = h)
    {pc : Nat} {Ls : Array Slot} {st : List Value} (hsz : Ls.size = c.maxLocals) {ps : List FieldType} {r' : Option FieldType} (hds : parseMethodDescriptor y.desc = some ⟨ps, r'⟩) (hlen : argsL.length = ps.length) (hst : st = argsL.reverse ++ .ref b :: rest) (hW : 2 * 0 + (rest.map fun v => v.category).sum ≤ W) (hd : decode c.code pc = .ok (.invokespecial index, 3))
    (k : ∀ (v : Option Value) (T' : State) (L : List Loc), Stand p l e R s m args below meth c T' (locs ++ L) (cells + C) (slots + N) → Q v T'.heap L → Gl p e below G (T'.setTop (mkF m (pc + 3) Ls (v.toList ++ rest)))) : Gl p e below G (T.setTop (mkF m pc Ls st)) := by
  obtain ⟨v, _, ⟨T', L', k', n'⟩, -, X', ⟨Lc, hQ, l1, y1, z1⟩, stp⟩ := X.specialBack hx (y := y) hy1 hown (mvT hZ w1) (mvT hZ w2) (mvT hZ w4) hy hK (g := mkF m pc Ls st) rfl hsz (Steps.refl _) (a := b) (argsL := argsL) (rest := rest) (lenOf hds hlen) hst hW hd (fun _ _ => ⟨rfl, eT, hcl, hsl⟩)
  dsimp only [Pt.U, Pt.locs, Pt.cells, Pt.slots] at X' l1 y1 z1 stp hQ
  subst l1 y1 z1
  exact Gl.of (fun t q => stp.trans q) (k v T' Lc X' hQ)
/-- an instance method that writes and makes nothing, by a Back -/
theorem Gl.callVB {G : State → Outcome → Prop} (X : Stand p l e R s m args below meth c T locs cells slots) (hx : p.tables.exec = Jvm.exec) (hZ : Z.Warmed39 s.vm) {own C : String} {index : Nat} {y z : MethodName} (hown : s.vm.findClass own = some m.cls)
    (w1 : (Jvm.Cond.methodLink own index y).before a0 Z = true) (w2 : (Jvm.Cond.declares y).before a0 Z = true) (nf : NotFace s y) (w3 : (Jvm.Cond.selects C y z).before a0 Z = true) (w4 : (Jvm.Cond.instanceMethod z).before a0 Z = true) (hy : y.cls ≠ "java/lang/invoke/MethodHandle" ∧ y.cls ≠ "java/lang/invoke/VarHandle")
    {W : Nat} (F : Option Value → Prop) {b : Addr} {argsL rest : List Value} (hE : Exa Z h b C) (hK : Back l R p e below s args z 3 W (fun A a => a = (Value.ref b :: argsL).toArray ∧ A.U.heap = h ∧ A.cells + 0 ≤ R.cells ∧ A.slots + 0 ≤ R.slots) (fun A _ v B => ∃ L, (F v ∧ L = [] ∧ B.U.heap = h) ∧ B.locs = A.locs ++ L ∧ B.cells = A.cells + 0 ∧ B.slots = A.slots + 0)) (hcl : cells ≤ R.cells) (hsl : slots ≤ R.slots) (eT : T.heap = h)
    {pc : Nat} {Ls : Array Slot} {st : List Value} (hsz : Ls.size = c.maxLocals) {ps : List FieldType} {r' : Option FieldType} (hds : parseMethodDescriptor y.desc = some ⟨ps, r'⟩) (hlen : argsL.length = ps.length) (hst : st = argsL.reverse ++ .ref b :: rest) (hW : 2 * 0 + (rest.map fun v => v.category).sum ≤ W) (hd : decode c.code pc = .ok (.invokevirtual index, 3))
    (k : ∀ (v : Option Value) (T' : State), Stand p l e R s m args below meth c T' locs cells slots → T'.heap = h → F v → Gl p e below G (T'.setTop (mkF m (pc + 3) Ls (v.toList ++ rest)))) : Gl p e below G (T.setTop (mkF m pc Ls st)) := by
  obtain ⟨cq, kq, qa, qb, qc⟩ := isOf hZ eT hE
  obtain ⟨v, _, ⟨T', L', k', n'⟩, -, X', ⟨Lc, ⟨hF, hL, hH⟩, l1, y1, z1⟩, stp⟩ := X.virtualBack hx (y := y) (z := z) hown (mvT hZ w1) (mvT hZ w2) nf (mvT hZ w3) (mvT hZ w4) hy hK qa qc (g := mkF m pc Ls st) rfl hsz (Steps.refl _) (argsL := argsL) (rest := rest) (lenOf hds hlen) hst hW hd (fun _ _ => ⟨rfl, eT, hcl, hsl⟩)
  dsimp only [Pt.U, Pt.locs, Pt.cells, Pt.slots] at X' l1 y1 z1 stp hH
  subst l1 y1 z1 hL
  rw [List.append_nil] at X'
  exact Gl.of (fun t q => stp.trans q) (k v T' X' hH hF)
/-- a static call of a callee that may intern -/
theorem Gl.callSW {G : State → Outcome → Prop} {vm0 : Vm} {k0 : Nat} (X : Stand p l e R (s.setVm vm0) m args below meth c T locs cells slots) (hx : p.tables.exec = Jvm.exec) (hZ : Z.Warmed39 (s.setVm vm0).vm) (hS : s.Since vm0 k0) (hk : k0 ≤ h.size) {own : String} {index : Nat} {y : MethodName} {bytes : ByteArray} {maxL : Nat} {rt : Option FieldType} (hown : (s.setVm vm0).vm.findClass own = some m.cls)
    (w1 : (Jvm.Cond.methodLink own index y).before a0 Z = true) (w2 : (Jvm.Cond.static y).before a0 Z = true) (w3 : (Jvm.Cond.initialized y.cls).before a0 Z = true) (w4 : (Jvm.Cond.code y bytes maxL rt).before a0 Z = true) (hy : y.cls ≠ "java/lang/invoke/MethodHandle" ∧ y.cls ≠ "java/lang/invoke/VarHandle")
    {rm : Room} {Q : Option Value → Heap → List Loc → Prop} {argsL rest : List Value} (hM : ConW l Z y bytes maxL rt [] rm rm.cells rm.slots argsL.toArray h Q) (W : Nat) (hf : rm.frames + 1 ≤ R.frames) (hl : W + (maxL + 11) + rm.locals ≤ R.locals) (hcl : cells + rm.cells ≤ R.cells) (hsl : slots + rm.slots ≤ R.slots) (eT : T.heap = h)
    {pc : Nat} {Ls : Array Slot} {st : List Value} (hsz : Ls.size = c.maxLocals) {ps : List FieldType} {r' : Option FieldType} (hds : parseMethodDescriptor y.desc = some ⟨ps, r'⟩) (hlen : argsL.length = ps.length) (hst : st = argsL.reverse ++ rest) (hW : 2 * 0 + (rest.map fun v => v.category).sum ≤ W) (hd : decode c.code pc = .ok (.invokestatic index, 3))
    (k : ∀ (v : Option Value) (T' : State) (L : List Loc), Stand p l e R (s.setVm T'.vm) m args below meth c T' (locs ++ L) (cells + rm.cells) (slots + rm.slots) → s.Since T'.vm T'.heap.size → Z.Warmed39 (s.setVm T'.vm).vm → (s.setVm T'.vm).vm.findClass own = some m.cls → Q v T'.heap L → Gl p e below G (T'.setTop (mkF m (pc + 3) Ls (v.toList ++ rest)))) : Gl p e below G (T.setTop (mkF m pc Ls st)) := by
  obtain ⟨v, _, ⟨T', L', k', n'⟩, -, X', hS', hg', ⟨Lc, hQ, l1, y1, z1⟩, stp⟩ := callSS X hx (y := y) hown (mvT hZ w1) (mvT hZ w2) (mvT hZ w3) (mvT hZ w4) hy (backOfS (W := W) hM hZ w4 w3 hf hl) (g := mkF m pc Ls st) rfl hsz (argsL := argsL) (rest := rest) (lenOf hds hlen) hst hW hd (fun _ _ => ⟨rfl, eT, hcl, hsl⟩)
  dsimp only [Pt.U, Pt.locs, Pt.cells, Pt.slots] at X' l1 y1 z1 stp hQ hS' hg'
  subst l1 y1 z1
  rw [eT] at hg'
  obtain ⟨q1, q2, q3, q4⟩ := rebS hS hk X' hS' hg' hZ hown
  exact Gl.of (fun t q => stp.trans q) (k v T' Lc q1 q2 q3 q4 hQ)
/-- a constructor that may intern -/
theorem Gl.callIW {G : State → Outcome → Prop} {vm0 : Vm} {k0 : Nat} (X : Stand p l e R (s.setVm vm0) m args below meth c T locs cells slots) (hx : p.tables.exec = Jvm.exec) (hZ : Z.Warmed39 (s.setVm vm0).vm) (hS : s.Since vm0 k0) (hk : k0 ≤ h.size) {own : String} {index : Nat} {y : MethodName} {bytes : ByteArray} {maxL : Nat} (hy1 : y.name = "<init>") (hown : (s.setVm vm0).vm.findClass own = some m.cls)
    (w1 : (Jvm.Cond.methodLink own index y).before a0 Z = true) (w2 : (Jvm.Cond.instanceMethod y).before a0 Z = true) (w3 : (Jvm.Cond.initialized y.cls).before a0 Z = true) (w4 : (Jvm.Cond.code y bytes maxL none).before a0 Z = true) (hy : y.cls ≠ "java/lang/invoke/MethodHandle" ∧ y.cls ≠ "java/lang/invoke/VarHandle")
    {rm : Room} {Q : Option Value → Heap → List Loc → Prop} {b : Addr} {argsL rest : List Value} (hM : ConW l Z y bytes maxL none [] rm rm.cells rm.slots (Value.ref b :: argsL).toArray h Q) (W : Nat) (hf : rm.frames + 1 ≤ R.frames) (hl : W + (maxL + 11) + rm.locals ≤ R.locals) (hcl : cells + rm.cells ≤ R.cells) (hsl : slots + rm.slots ≤ R.slots) (eT : T.heap = h)
    {pc : Nat} {Ls : Array Slot} {st : List Value} (hsz : Ls.size = c.maxLocals) {ps : List FieldType} {r' : Option FieldType} (hds : parseMethodDescriptor y.desc = some ⟨ps, r'⟩) (hlen : argsL.length = ps.length) (hst : st = argsL.reverse ++ .ref b :: rest) (hW : 2 * 0 + (rest.map fun v => v.category).sum ≤ W) (hd : decode c.code pc = .ok (.invokespecial index, 3))
    (k : ∀ (v : Option Value) (T' : State) (L : List Loc), Stand p l e R (s.setVm T'.vm) m args below meth c T' (locs ++ L) (cells + rm.cells) (slots + rm.slots) → s.Since T'.vm T'.heap.size → Z.Warmed39 (s.setVm T'.vm).vm → (s.setVm T'.vm).vm.findClass own = some m.cls → Q v T'.heap L → Gl p e below G (T'.setTop (mkF m (pc + 3) Ls (v.toList ++ rest)))) : Gl p e below G (T.setTop (mkF m pc Ls st)) := by
  obtain ⟨v, _, ⟨T', L', k', n'⟩, -, X', hS', hg', ⟨Lc, hQ, l1, y1, z1⟩, stp⟩ := X.specialBackS hx (y := y) hy1 hown (mvT hZ w1) (mvT hZ w2) (mvT hZ w4) hy (backOfS (W := W) hM hZ w4 w3 hf hl) (g := mkF m pc Ls st) rfl hsz (Steps.refl _) (a := b) (argsL := argsL) (rest := rest) (lenOf hds hlen) hst hW hd (fun _ _ => ⟨rfl, eT, hcl, hsl⟩)
  dsimp only [Pt.U, Pt.locs, Pt.cells, Pt.slots] at X' l1 y1 z1 stp hQ hS' hg'
  subst l1 y1 z1
  rw [eT] at hg'
  obtain ⟨q1, q2, q3, q4⟩ := rebS hS hk X' hS' hg' hZ hown
  exact Gl.of (fun t q => stp.trans q) (k v T' Lc q1 q2 q3 q4 hQ)
/-- an instance method that may intern -/
theorem Gl.callVW {G : State → Outcome → Prop} {vm0 : Vm} {k0 : Nat} (X : Stand p l e R (s.setVm vm0) m args below meth c T locs cells slots) (hx : p.tables.exec = Jvm.exec) (hZ : Z.Warmed39 (s.setVm vm0).vm) (hS : s.Since vm0 k0) (hk : k0 ≤ h.size) {own C : String} {index : Nat} {y z : MethodName} {bytes : ByteArray} {maxL : Nat} {rt : Option FieldType} (hown : (s.setVm vm0).vm.findClass own = some m.cls)
    (w1 : (Jvm.Cond.methodLink own index y).before a0 Z = true) (w2 : (Jvm.Cond.declares y).before a0 Z = true) (nf : NotFace (s.setVm vm0) y) (w5 : (Jvm.Cond.selects C y z).before a0 Z = true) (w6 : (Jvm.Cond.instanceMethod z).before a0 Z = true) (w4 : (Jvm.Cond.code z bytes maxL rt).before a0 Z = true) (w3 : (Jvm.Cond.initialized z.cls).before a0 Z = true) (hy : y.cls ≠ "java/lang/invoke/MethodHandle" ∧ y.cls ≠ "java/lang/invoke/VarHandle")
    {rm : Room} {Q : Option Value → Heap → List Loc → Prop} {b : Addr} {argsL rest : List Value} (hE : Exa Z h b C) (hM : ConW l Z z bytes maxL rt [] rm rm.cells rm.slots (Value.ref b :: argsL).toArray h Q) (W : Nat) (hf : rm.frames + 1 ≤ R.frames) (hl : W + (maxL + 11) + rm.locals ≤ R.locals) (hcl : cells + rm.cells ≤ R.cells) (hsl : slots + rm.slots ≤ R.slots) (eT : T.heap = h)
    {pc : Nat} {Ls : Array Slot} {st : List Value} (hsz : Ls.size = c.maxLocals) {ps : List FieldType} {r' : Option FieldType} (hds : parseMethodDescriptor y.desc = some ⟨ps, r'⟩) (hlen : argsL.length = ps.length) (hst : st = argsL.reverse ++ .ref b :: rest) (hW : 2 * 0 + (rest.map fun v => v.category).sum ≤ W) (hd : decode c.code pc = .ok (.invokevirtual index, 3))
    (k : ∀ (v : Option Value) (T' : State) (L : List Loc), Stand p l e R (s.setVm T'.vm) m args below meth c T' (locs ++ L) (cells + rm.cells) (slots + rm.slots) → s.Since T'.vm T'.heap.size → Z.Warmed39 (s.setVm T'.vm).vm → (s.setVm T'.vm).vm.findClass own = some m.cls → Q v T'.heap L → Gl p e below G (T'.setTop (mkF m (pc + 3) Ls (v.toList ++ rest)))) : Gl p e below G (T.setTop (mkF m pc Ls st)) := by
  obtain ⟨cq, kq, qa, qb, qc⟩ := isOf hZ eT hE
  obtain ⟨v, _, ⟨T', L', k', n'⟩, -, X', hS', hg', ⟨Lc, hQ, l1, y1, z1⟩, stp⟩ := X.virtualBackS hx (y := y) (z := z) hown (mvT hZ w1) (mvT hZ w2) nf (mvT hZ w5) (mvT hZ w6) hy (backOfS (W := W) hM hZ w4 w3 hf hl) qa qc (g := mkF m pc Ls st) rfl hsz (Steps.refl _) (argsL := argsL) (rest := rest) (lenOf hds hlen) hst hW hd (fun _ _ => ⟨rfl, eT, hcl, hsl⟩)
  dsimp only [Pt.U, Pt.locs, Pt.cells, Pt.slots] at X' l1 y1 z1 stp hQ hS' hg'
  subst l1 y1 z1
  rw [eT] at hg'
  obtain ⟨q1, q2, q3, q4⟩ := rebS hS hk X' hS' hg' hZ hown
  exact Gl.of (fun t q => stp.trans q) (k v T' Lc q1 q2 q3 q4 hQ)
theorem nf_same {y y' : MethodName} {C : String} (hc : y'.cls = y.cls) (w : (Jvm.Cond.selects C y y).before args s = true) : NotFace s y' := fun r0 h0 => by
  obtain ⟨c2, r2, m2, q1, q2, q3, q4, kP, hkP, hkPi⟩ := Cond.selects_spec w
  have a := findClass_of_methodNamed h0
  rw [hc] at a
  have b := Option.some.inj (a.symm.trans (findClass_of_methodNamed q3))
  exact ⟨kP, by rw [b]; exact hkP, hkPi⟩
theorem fld_ne {a b : Addr} {C n d : String} {v w : Value} (F : Fld Z h a C n d v) (G : Fld Z h b C n d w) (hn : v ≠ w) : ¬ a = b := fun e => by
  subst e
  obtain ⟨c1, cf, k, i, f, h1, h2, -, -, -, -, h7⟩ := F
  obtain ⟨c2, cf', k', i', f', g1, g2, -, -, -, -, g7⟩ := G
  cases h1.symm.trans g1
  cases h2.symm.trans g2
  exact hn (Option.some.inj (h7.symm.trans g7))
theorem own_nb1 : nar .boolean 1 = 1 := rfl
theorem own_nb0 : nar .boolean 0 = 0 := rfl
/-- the words of a case: an equation with an int -/
theorem eq_at {args : Array Value} {s : State} {t : Term} {idx : List Nat} {z : Int32} (h : (Jvm.Cond.eq t (.int z)).value args s none s idx = some true) : t.eval args s none idx s = some (.int z) := by
  obtain ⟨x, y', e1, e2, k1, k2⟩ := cmp_v (Or.inl h)
  cases (Term.int_eval z).symm.trans e2
  obtain ⟨z', rfl⟩ : ∃ z', x = .int z' := k2
  exact e1.trans (congrArg (fun z => some (Value.int z)) (gotT (Cond.eq_ints e1 (Term.int_eval z)) h))
theorem eqR_at {args : Array Value} {s : State} {t u : Term} {idx : List Nat} {a : Addr} (h : (Jvm.Cond.eq t u).value args s none s idx = some true) (hu : u.eval args s none idx s = some (.ref a)) : t.eval args s none idx s = some (.ref a) := by
  obtain ⟨x, y', e1, e2, k1, k2⟩ := cmp_v (Or.inl h)
  cases hu.symm.trans e2
  have hx : x.isRef = true := k2.2
  have q := gotT (eq_R e1 hu hx rfl) h
  rw [q] at e1
  exact e1
theorem len_at {args : Array Value} {s : State} {t : Term} {z : Int32} {a : Addr} {cl : Cell} (h : (Term.length t).eval args s none [] s = some (.int z)) (ht : t.eval args s none [] s = some (.ref a)) (ha : s.arrayAt? a = some cl) : cl.slots.size.toInt32 = z ∧ cl.slots.size < 2 ^ 31 := by
  by_cases q : cl.slots.size < 2 ^ 31
  · rw [len_f ht ha q] at h
    cases h
    exact ⟨rfl, q⟩
  · simp [Term.eval, ht, ha, q] at h
theorem len_sz {n : Nat} {z : Int32} (h : n.toInt32 = z) (q : n < 2 ^ 31) : n = z.toNatClampNeg := by
  rw [← h]; simp only [Int32.toNatClampNeg, len_toInt q]; rfl
end Own
theorem own_ws {Z : State} {a0 : Array Value} (hw : ∀ d ∈ tables_1, d.before a0 Z = true) : ∀ d ∈ StrChars.Road.words, d.before a0 Z = true := fun d hd => hw d ((by decide +kernel : ∀ d ∈ StrChars.Road.words, d ∈ tables_1) d hd)
theorem own_weq {Z : State} {a0 : Array Value} (hw : ∀ d ∈ tables_1, d.before a0 Z = true) : ∀ d ∈ StrChars.Road.wordsEq, d.before a0 Z = true := fun d hd => hw d ((by decide +kernel : ∀ d ∈ StrChars.Road.wordsEq, d ∈ tables_1) d hd)
theorem own_wln {Z : State} {a0 : Array Value} (hw : ∀ d ∈ tables_1, d.before a0 Z = true) : ∀ d ∈ StrChars.Road.wordsLen, d.before a0 Z = true := fun d hd => hw d ((by decide +kernel : ∀ d ∈ StrChars.Road.wordsLen, d ∈ tables_1) d hd)
theorem own_wch {Z : State} {a0 : Array Value} (hw : ∀ d ∈ tables_1, d.before a0 Z = true) : ∀ d ∈ StrChars.Road.wordsChN, d.before a0 Z = true := fun d hd => hw d ((by decide +kernel : ∀ d ∈ StrChars.Road.wordsChN, d ∈ tables_1) d hd)
theorem own_wem {Z : State} {a0 : Array Value} (hw : ∀ d ∈ tables_1, d.before a0 Z = true) : ∀ d ∈ StrChars.Road.wordsEmp, d.before a0 Z = true := fun d hd => hw d ((by decide +kernel : ∀ d ∈ StrChars.Road.wordsEmp, d ∈ tables_1) d hd)
theorem own_c255 (x : Int32) : ¬ nar .char ((x &&& (255 : Int32)).toUInt32.toUInt16.toUInt32.toInt32) < 0 ∧ ¬ (255 : Int32) < nar .char ((x &&& (255 : Int32)).toUInt32.toUInt16.toUInt32.toInt32) := by
  have e : nar .char ((x &&& (255 : Int32)).toUInt32.toUInt16.toUInt32.toInt32) = x &&& 255 := by
    show ((x &&& (255 : Int32)).toUInt32.toUInt16.toUInt32.toInt32).toUInt32.toUInt16.toUInt32.toInt32 = x &&& 255
    rw [i2c_mask, i2c_mask]
  rw [e]
  have h : (x &&& (255 : Int32)).toInt = x.toInt % 2 ^ 8 := Jvm.Kit.i32_mask x 255 (k := 8) (by decide) (by decide)
  have e0 : (0 : Int32).toInt = 0 := rfl
  have e1 : (255 : Int32).toInt = 255 := rfl
  simp only [Int32.lt_iff_toInt_lt, h]
  omega
theorem own_up (cs : List Int32) (h : ∀ c ∈ cs, ¬ c < 0 ∧ ¬ (255 : Int32) < c) : ∀ c ∈ cs, ¬ c < 0 ∧ ¬ (65535 : Int32) < c := fun c hc => ⟨(h c hc).1, fun q => (h c hc).2 (by rw [Int32.lt_iff_toInt_lt] at q ⊢; have e1 : (65535 : Int32).toInt = 65535 := rfl; have e2 : (255 : Int32).toInt = 255 := rfl; omega)⟩
theorem own_cons {P : Int32 → Prop} {x : Int32} {xs : List Int32} (h : P x) (hs : ∀ c ∈ xs, P c) : ∀ c ∈ x :: xs, P c := fun c hc => by
  rcases List.mem_cons.mp hc with rfl | hc
  · exact h
  · exact hs c hc
theorem own_nil {P : Int32 → Prop} : ∀ c ∈ ([] : List Int32), P c := fun c hc => nomatch hc
def Strg (Z : State) (h : Heap) (x t : Addr) (kb : ClassId) (cs : List Int32) : Prop := Exa Z h x "java/lang/String" ∧ Fld Z h x "java/lang/String" "value" "[B" (.ref t) ∧ Fld Z h x "java/lang/String" "coder" "B" (.int 0) ∧ Arv Z h t kb .byte (Int32.ofNat cs.length) ((cs.map (fun c => c.toInt8.toInt32)).map Value.int) (.int 0) ∧ (∀ c ∈ cs, ¬ c < 0 ∧ ¬ (255 : Int32) < c) ∧ cs.length ≤ 4000
theorem Strg.ext {Z : State} {h h' : Heap} {x t : Addr} {kb : ClassId} {cs : List Int32} (G : Strg Z h x t kb cs) (E : Ext h h') : Strg Z h' x t kb cs := ⟨G.1.ext E, G.2.1.ext E, G.2.2.1.ext E, G.2.2.2.1.ext E, G.2.2.2.2⟩
theorem Strg.keep {Z : State} {h h' : Heap} {x t : Addr} {kb : ClassId} {cs : List Int32} {ws : List Addr} (G : Strg Z h x t kb cs) (K : Keep h h' ws) (q : x ∉ ws) (q' : t ∉ ws) : Strg Z h' x t kb cs := ⟨G.1.keep K, G.2.1.keep K q, G.2.2.1.keep K q, G.2.2.2.1.keep K q', G.2.2.2.2⟩
theorem Strg.wr {Z : State} {h h' : Heap} {x t a : Addr} {sl : Nat} {v : Value} {kb : ClassId} {cs : List Int32} (G : Strg Z h x t kb cs) (W : Wr h h' a sl v) (q : x ≠ a) (q' : t ≠ a) : Strg Z h' x t kb cs := ⟨G.1.wr W, G.2.1.other W (Or.inl q), G.2.2.1.other W (Or.inl q), G.2.2.2.1.other W q', G.2.2.2.2⟩
theorem Strg.lt {Z : State} {h : Heap} {x t : Addr} {kb : ClassId} {cs : List Int32} (G : Strg Z h x t kb cs) : x < h.size := G.1.lt
theorem Strg.lt' {Z : State} {h : Heap} {x t : Addr} {kb : ClassId} {cs : List Int32} (G : Strg Z h x t kb cs) : t < h.size := G.2.2.2.1.lt
theorem Strg.cod {Z : State} {h : Heap} {x t : Addr} {kb : ClassId} {cs : List Int32} (G : Strg Z h x t kb cs) : StrChars.Road.CodA cs 0 (Int32.ofNat cs.length) ((cs.map (fun c => c.toInt8.toInt32)).map Value.int) := StrChars.Road.codOf rfl (fun c hc => (G.2.2.2.2.1 c hc).2)
theorem Strg.up {Z : State} {h : Heap} {x t : Addr} {kb : ClassId} {cs : List Int32} (G : Strg Z h x t kb cs) : ∀ c ∈ cs, ¬ c < 0 ∧ ¬ (65535 : Int32) < c := own_up _ G.2.2.2.2.1
theorem own_str {Z : State} {a0 : Array Value} (hw : ∀ d ∈ tables_1, d.before a0 Z = true) : ∀ a ∈ Bundle.stringAtoms, a.before a0 Z = true := fun d hd => hw d ((by decide +kernel : ∀ d ∈ Bundle.stringAtoms, d ∈ tables_1) d hd)
def own_fst (c : Int32) : Prop := (97 ≤ c.toInt ∧ c.toInt ≤ 122) ∨ (65 ≤ c.toInt ∧ c.toInt ≤ 90) ∨ c.toInt = 95
def own_any (c : Int32) : Prop := (97 ≤ c.toInt ∧ c.toInt ≤ 122) ∨ (65 ≤ c.toInt ∧ c.toInt ≤ 90) ∨ (48 ≤ c.toInt ∧ c.toInt ≤ 57) ∨ c.toInt = 95
theorem own_fa {c : Int32} (h : own_fst c) : own_any c := by unfold own_fst at h; unfold own_any; omega
theorem own_rg {c : Int32} (h : own_any c) : ¬ c < 0 ∧ ¬ (255 : Int32) < c := by
  unfold own_any at h
  have e0 : (0 : Int32).toInt = 0 := rfl
  have e1 : (255 : Int32).toInt = 255 := rfl
  simp only [Int32.lt_iff_toInt_lt]
  omega
theorem own_u16 (u : UInt16) : (u.toUInt32.toInt32).toInt = u.toNat := by
  have hu := u.toNat_lt
  have e : u.toUInt32.toInt32.toInt = (u.toUInt32.toBitVec).toInt := rfl
  have e2 : u.toUInt32.toBitVec.toNat = u.toNat := UInt16.toNat_toUInt32 u
  rw [e, BitVec.toInt_eq_toNat_of_lt (by rw [e2]; omega), e2]
theorem own_i2c {x : Int32} (h0 : 0 ≤ x.toInt) (h1 : x.toInt ≤ 65535) : x.toUInt32.toUInt16.toUInt32.toInt32 = x := by
  apply Int32.toInt_inj.mp
  rw [own_u16, UInt32.toNat_toUInt16]
  have e : x.toInt = x.toBitVec.toInt := rfl
  have e2 : x.toUInt32.toNat = x.toBitVec.toNat := rfl
  rw [BitVec.toInt_eq_toNat_cond] at e
  have e3 := x.toBitVec.isLt
  rw [e2]
  split at e <;> omega
theorem own_nc {c : Int32} (h : ¬ c < 0 ∧ ¬ (255 : Int32) < c) : nar .char c = c := by
  have e0 : (0 : Int32).toInt = 0 := rfl
  have e1 : (255 : Int32).toInt = 255 := rfl
  simp only [Int32.lt_iff_toInt_lt] at h
  exact own_i2c (by omega) (by omega)
theorem own_nr {c : Int32} (h : ¬ c < 0 ∧ ¬ (255 : Int32) < c) : ¬ nar .char c < 0 ∧ ¬ (255 : Int32) < nar .char c := by rw [own_nc h]; exact h
theorem own_md (x d : Int32) (hd : 0 < d.toInt) : 0 ≤ ((x &&& (2147483647 : Int32)) % d).toInt ∧ ((x &&& (2147483647 : Int32)) % d).toInt < d.toInt := by
  have h : (x &&& (2147483647 : Int32)).toInt = x.toInt % 2 ^ 31 := Jvm.Kit.i32_mask x 2147483647 (k := 31) (by decide) (by decide)
  rw [Int32.toInt_mod]
  have h3 : 0 ≤ (x &&& (2147483647 : Int32)).toInt := by rw [h]; omega
  rw [Int.tmod_eq_emod_of_nonneg h3]
  exact ⟨Int.emod_nonneg _ (by omega), Int.emod_lt_of_pos _ hd⟩
theorem own_nn (t : Int32) (h0 : 0 ≤ t.toInt) (h1 : t.toInt ≤ 65535) : nar .char (t.toUInt32.toUInt16.toUInt32.toInt32) = t := by
  rw [own_i2c h0 h1]; exact own_i2c h0 h1
theorem own_ad {a b : Int32} {x : Int} (ha : a.toInt = x) (h0 : 0 ≤ x + b.toInt) (h1 : x + b.toInt ≤ 65535) : (a + b).toInt = x + b.toInt := by rw [Jvm.Kit.i32_add] <;> omega
theorem own_sb {a b : Int32} {x : Int} (hb : b.toInt = x) (h0 : 0 ≤ a.toInt - x) (h1 : a.toInt - x ≤ 65535) : (a - b).toInt = a.toInt - x := by
  rw [Int32.toInt_sub, hb]
  exact Int.bmod_eq_of_le (by omega) (by omega)
theorem own_l26 {k : Int32} (h : 0 ≤ k.toInt) (hk : k < (26 : Int32)) : own_fst (nar .char (((97 : Int32) + k).toUInt32.toUInt16.toUInt32.toInt32)) := by
  have e : (26 : Int32).toInt = 26 := rfl
  rw [Int32.lt_iff_toInt_lt, e] at hk
  have q : ((97 : Int32) + k).toInt = 97 + k.toInt := own_ad rfl (by omega) (by omega)
  rw [own_nn _ (by omega) (by omega)]
  exact Or.inl ⟨by omega, by omega⟩
theorem own_l52 {k : Int32} (hk : ¬ k < (26 : Int32)) (hk' : k < (52 : Int32)) : own_fst (nar .char (((65 : Int32) + (k - (26 : Int32))).toUInt32.toUInt16.toUInt32.toInt32)) := by
  have e : (26 : Int32).toInt = 26 := rfl
  have e' : (52 : Int32).toInt = 52 := rfl
  rw [Int32.lt_iff_toInt_lt] at hk hk'
  have q0 : (k - (26 : Int32)).toInt = k.toInt - 26 := own_sb rfl (by omega) (by omega)
  have q : ((65 : Int32) + (k - (26 : Int32))).toInt = 65 + (k - (26 : Int32)).toInt := own_ad rfl (by omega) (by omega)
  rw [own_nn _ (by omega) (by omega)]
  exact Or.inr (Or.inl ⟨by omega, by omega⟩)
theorem own_l62 {k : Int32} (hk : ¬ k < (52 : Int32)) (hk' : k < (62 : Int32)) : own_any (nar .char (((48 : Int32) + (k - (52 : Int32))).toUInt32.toUInt16.toUInt32.toInt32)) := by
  have e : (62 : Int32).toInt = 62 := rfl
  have e' : (52 : Int32).toInt = 52 := rfl
  rw [Int32.lt_iff_toInt_lt] at hk hk'
  have q0 : (k - (52 : Int32)).toInt = k.toInt - 52 := own_sb rfl (by omega) (by omega)
  have q : ((48 : Int32) + (k - (52 : Int32))).toInt = 48 + (k - (52 : Int32)).toInt := own_ad rfl (by omega) (by omega)
  rw [own_nn _ (by omega) (by omega)]
  exact Or.inr (Or.inr (Or.inl ⟨by omega, by omega⟩))
theorem own_95 : own_fst (nar .char (95 : Int32)) := Or.inr (Or.inr (by decide))
def own_dig (c : Int32) : Int32 := if c < (48 : Int32) then 0 else if (57 : Int32) < c then 0 else 1
def own_pln (c : Int32) : Int32 := if ¬ c < (97 : Int32) ∧ ¬ (122 : Int32) < c then 1 else if ¬ c < (65 : Int32) ∧ ¬ (90 : Int32) < c then 1 else if own_dig c = (0 : Int32) then (if c = (95 : Int32) then 1 else 0) else 1
theorem own_d0 {c : Int32} (h : own_fst c) : own_dig c = (0 : Int32) := by
  unfold own_fst at h
  have e0 : (48 : Int32).toInt = 48 := rfl
  have e1 : (57 : Int32).toInt = 57 := rfl
  unfold own_dig
  simp only [Int32.lt_iff_toInt_lt]
  split
  · rfl
  · split
    · rfl
    · omega
theorem own_p1 {c : Int32} (h : own_any c) : ¬ own_pln c = (0 : Int32) := by
  unfold own_any at h
  have e0 : (48 : Int32).toInt = 48 := rfl
  have e1 : (57 : Int32).toInt = 57 := rfl
  have e2 : (97 : Int32).toInt = 97 := rfl
  have e3 : (122 : Int32).toInt = 122 := rfl
  have e4 : (65 : Int32).toInt = 65 := rfl
  have e5 : (90 : Int32).toInt = 90 := rfl
  have e6 : (95 : Int32).toInt = 95 := rfl
  unfold own_pln
  split
  · decide
  rename_i a1
  split
  · decide
  rename_i a2
  split
  · rename_i a3
    split
    · decide
    rename_i a4
    exfalso
    unfold own_dig at a3
    simp only [Int32.lt_iff_toInt_lt, ← Int32.toInt_inj] at *
    split at a3
    · omega
    · split at a3
      · omega
      · simp at a3
  · decide
def own_sp (l a b c : Int32) : List Int32 := if l = (1 : Int32) then [a] else if l = (2 : Int32) then [a, b] else [a, b, c]
def own_ok (cs : List Int32) : Prop := (∃ a, cs = [a] ∧ own_fst a) ∨ (∃ a b, cs = [a, b] ∧ own_fst a ∧ own_any b) ∨ (∃ a b c, cs = [a, b, c] ∧ own_fst a ∧ own_any b ∧ own_any c)
theorem own_oks {l a b c : Int32} (ha : own_fst a) (hb : own_any b) (hc : own_any c) : own_ok (own_sp l a b c) := by
  unfold own_sp
  split
  · exact Or.inl ⟨a, rfl, ha⟩
  split
  · exact Or.inr (Or.inl ⟨a, b, rfl, ha, hb⟩)
  · exact Or.inr (Or.inr ⟨a, b, c, rfl, ha, hb, hc⟩)
def own_l (l : Int32) : Prop := l = 1 ∨ l = 2 ∨ l = 3
theorem own_l3 (x : Int32) : own_l ((1 : Int32) + ((x &&& (3 : Int32)) % (3 : Int32))) := by
  have h : (x &&& (3 : Int32)).toInt = x.toInt % 2 ^ 2 := Jvm.Kit.i32_mask x 3 (k := 2) (by decide) (by decide)
  have h4 : (x &&& (3 : Int32)).toInt = 0 ∨ (x &&& (3 : Int32)).toInt = 1 ∨ (x &&& (3 : Int32)).toInt = 2 ∨ (x &&& (3 : Int32)).toInt = 3 := by omega
  generalize (x &&& (3 : Int32)) = y at h4
  unfold own_l
  rcases h4 with q | q | q | q
  · obtain rfl : y = 0 := Int32.toInt_inj.mp q
    decide
  · obtain rfl : y = 1 := Int32.toInt_inj.mp q
    decide
  · obtain rfl : y = 2 := Int32.toInt_inj.mp q
    decide
  · obtain rfl : y = 3 := Int32.toInt_inj.mp q
    decide
theorem own_k (x : Int32) (h2 : ¬ (x &&& (3 : Int32)) = (2 : Int32)) (h3 : ¬ (x &&& (3 : Int32)) = (3 : Int32)) : (x &&& (3 : Int32)) < (2 : Int32) := by
  have h : (x &&& (3 : Int32)).toInt = x.toInt % 2 ^ 2 := Jvm.Kit.i32_mask x 3 (k := 2) (by decide) (by decide)
  have e2 : (2 : Int32).toInt = 2 := rfl
  have e3 : (3 : Int32).toInt = 3 := rfl
  simp only [Int32.lt_iff_toInt_lt, ← Int32.toInt_inj] at *
  omega
theorem ef_1 (m : MethodId) (x0 : Int32) : entryFrame m #[(.int x0)] 2 = mkF m 0 #[.val (.int x0), .unset] [] := by first | (simp [entryFrame, mkF, argsToLocals, Value.category, maxLocals]; done) | rfl
theorem pn_0 : plainName "com/example/schenley/schenley/IdentifierEqualsPinLaw" = true := by first | (simp [plainName, overriddenIn]; done) | decide +kernel
theorem d1_0 : decode method_3_code 0 = .ok (.iload_n 0, 1) := by decide +kernel
theorem d1_1 : decode method_3_code 1 = .ok (.ldc 7, 2) := by decide +kernel
theorem w4 {Z : State} {a0 : Array Value} (hw : ∀ d ∈ tables_1, d.before a0 Z = true) : (Jvm.Cond.constant "com/example/schenley/schenley/IdentifierEqualsPinLaw" (7 : Nat) (2147483647 : Int32)).before a0 Z = true := hw _ (List.mem_of_getElem? (i := 4) rfl)
theorem d1_3 : decode method_3_code 3 = .ok (.iand, 1) := by decide +kernel
theorem d1_4 : decode method_3_code 4 = .ok (.bipush 53, 2) := by decide +kernel
theorem d1_6 : decode method_3_code 6 = .ok (.irem, 1) := by decide +kernel
theorem d1_7 : decode method_3_code 7 = .ok (.istore_n 1, 1) := by decide +kernel
theorem d1_8 : decode method_3_code 8 = .ok (.iload_n 1, 1) := by decide +kernel
theorem d1_9 : decode method_3_code 9 = .ok (.bipush 26, 2) := by decide +kernel
theorem d1_11 : decode method_3_code 11 = .ok (.if_icmp .ge 9, 3) := by decide +kernel
theorem d1_14 : decode method_3_code 14 = .ok (.bipush 97, 2) := by decide +kernel
theorem d1_16 : decode method_3_code 16 = .ok (.iload_n 1, 1) := by decide +kernel
theorem d1_17 : decode method_3_code 17 = .ok (.iadd, 1) := by decide +kernel
theorem d1_18 : decode method_3_code 18 = .ok (.i2c, 1) := by decide +kernel
theorem d1_19 : decode method_3_code 19 = .ok (.ireturn, 1) := by decide +kernel
theorem d1_20 : decode method_3_code 20 = .ok (.iload_n 1, 1) := by decide +kernel
theorem d1_21 : decode method_3_code 21 = .ok (.bipush 52, 2) := by decide +kernel
theorem d1_23 : decode method_3_code 23 = .ok (.if_icmp .ge 12, 3) := by decide +kernel
theorem d1_26 : decode method_3_code 26 = .ok (.bipush 65, 2) := by decide +kernel
theorem d1_28 : decode method_3_code 28 = .ok (.iload_n 1, 1) := by decide +kernel
theorem d1_29 : decode method_3_code 29 = .ok (.bipush 26, 2) := by decide +kernel
theorem d1_31 : decode method_3_code 31 = .ok (.isub, 1) := by decide +kernel
theorem d1_32 : decode method_3_code 32 = .ok (.iadd, 1) := by decide +kernel
theorem d1_33 : decode method_3_code 33 = .ok (.i2c, 1) := by decide +kernel
theorem d1_34 : decode method_3_code 34 = .ok (.ireturn, 1) := by decide +kernel
theorem d1_35 : decode method_3_code 35 = .ok (.bipush 95, 2) := by decide +kernel
theorem d1_37 : decode method_3_code 37 = .ok (.ireturn, 1) := by decide +kernel
set_option maxRecDepth 65536 in
set_option maxHeartbeats 40000000 in
theorem rm1 (l : Launch) (Z : State) (a0 : Array Value) (hw : ∀ d ∈ tables_1, d.before a0 Z = true) (h0 : Heap) (p1 : Int32) : Con l Z (⟨"com/example/schenley/schenley/IdentifierEqualsPinLaw", "firstPlain", "(I)C"⟩ : MethodName) method_3_code 2 (some .char) [] ({ frames := 0, cells := 0, slots := 0, locals := 0 } : Room) 0 0 #[(.int p1)] h0 (Pur (fun v => ∃ c, v = some (.int c) ∧ own_fst c) h0) := by
  refine Con.intro (plainFor_of_name pn_0) ?_
  intro p e s m below meth c s₁ X0 hx hby hml hZ hown hnm hret hlk e0 hs0
  refine Gl.of (fun _ kq_ => castTop (ef_1 m p1) kq_) ?_
  show Gl p e below _ (s₁.setTop (mkF m 0 #[.val (.int p1), .unset] []))
  refine Gl.of (fun _ kq_ => XS.iloadN X0.here hx rfl (hb hby d1_0) rfl kq_) ?_
  show Gl p e below _ (s₁.setTop (mkF m 1 #[.val (.int p1), .unset] [(.int p1)]))
  refine Gl.of (fun _ kq_ => X0.ldcInt hx hown (mvT hZ (w4 hw)) (g := (mkF m 1 #[.val (.int p1), .unset] [(.int p1)])) rfl (hb hby d1_1) _ kq_) ?_
  show Gl p e below _ (s₁.setTop (mkF m 3 #[.val (.int p1), .unset] [(.int (2147483647 : Int32)), (.int p1)]))
  refine Gl.of (fun _ kq_ => XS.iand X0.here hx rfl (hb hby d1_3) rfl kq_) ?_
  show Gl p e below _ (s₁.setTop (mkF m 4 #[.val (.int p1), .unset] [(.int (p1 &&& (2147483647 : Int32)))]))
  refine Gl.of (fun _ kq_ => XS.bipush X0.here hx rfl (hb hby d1_4) kq_) ?_
  show Gl p e below _ (s₁.setTop (mkF m 6 #[.val (.int p1), .unset] [(.int (53 : Int32)), (.int (p1 &&& (2147483647 : Int32)))]))
  refine Gl.of (fun _ kq_ => iremM X0 hx rfl (hb hby d1_6) rfl (by decide) kq_) ?_
  show Gl p e below _ (s₁.setTop (mkF m 7 #[.val (.int p1), .unset] [(.int ((p1 &&& (2147483647 : Int32)) % (53 : Int32)))]))
  refine Gl.of (fun _ kq_ => XS.istoreN X0.here hx rfl (hb hby d1_7) rfl (l' := #[.val (.int p1), .val (.int ((p1 &&& (2147483647 : Int32)) % (53 : Int32)))]) rfl kq_) ?_
  show Gl p e below _ (s₁.setTop (mkF m 8 #[.val (.int p1), .val (.int ((p1 &&& (2147483647 : Int32)) % (53 : Int32)))] []))
  suffices J8 : ∀ k : Int32, (0 ≤ k.toInt ∧ k.toInt < 53) → Gl p e below (Gd s (Pur (fun v => ∃ c, v = some (.int c) ∧ own_fst c) h0) 0 0) (s₁.setTop (mkF m 8 #[.val (.int p1), .val (.int k)] [])) from J8 _ (own_md p1 (53 : Int32) (by decide))
  intro k hk'
  show Gl p e below _ (s₁.setTop (mkF m 8 #[.val (.int p1), .val (.int k)] []))
  refine Gl.of (fun _ kq_ => XS.iloadN X0.here hx rfl (hb hby d1_8) rfl kq_) ?_
  show Gl p e below _ (s₁.setTop (mkF m 9 #[.val (.int p1), .val (.int k)] [(.int k)]))
  refine Gl.of (fun _ kq_ => XS.bipush X0.here hx rfl (hb hby d1_9) kq_) ?_
  show Gl p e below _ (s₁.setTop (mkF m 11 #[.val (.int p1), .val (.int k)] [(.int (26 : Int32)), (.int k)]))
  by_cases hc11_1 : k < (26 : Int32)
  · refine Gl.of (fun _ kq_ => XS.icmpNo X0.here hx rfl (hb hby d1_11) rfl (tlt hc11_1).2.1 kq_) ?_
    show Gl p e below _ (s₁.setTop (mkF m 14 #[.val (.int p1), .val (.int k)] []))
    refine Gl.of (fun _ kq_ => XS.bipush X0.here hx rfl (hb hby d1_14) kq_) ?_
    show Gl p e below _ (s₁.setTop (mkF m 16 #[.val (.int p1), .val (.int k)] [(.int (97 : Int32))]))
    refine Gl.of (fun _ kq_ => XS.iloadN X0.here hx rfl (hb hby d1_16) rfl kq_) ?_
    show Gl p e below _ (s₁.setTop (mkF m 17 #[.val (.int p1), .val (.int k)] [(.int k), (.int (97 : Int32))]))
    refine Gl.of (fun _ kq_ => XS.iadd X0.here hx rfl (hb hby d1_17) rfl kq_) ?_
    show Gl p e below _ (s₁.setTop (mkF m 18 #[.val (.int p1), .val (.int k)] [(.int ((97 : Int32) + k))]))
    refine Gl.of (fun _ kq_ => XS.i2c X0.here hx rfl (hb hby d1_18) rfl kq_) ?_
    show Gl p e below _ (s₁.setTop (mkF m 19 #[.val (.int p1), .val (.int k)] [(.int (((97 : Int32) + k).toUInt32.toUInt16.toUInt32.toInt32))]))
    exact Gl.retN X0 hx hlk hret (by simp) (hb hby d1_19) e0 (⟨⟨_, rfl, own_l26 hk'.1 hc11_1⟩, rfl, rfl⟩) (by decide) (by decide)
  · refine Gl.of (fun _ kq_ => XS.icmpYes X0.here hx rfl (pc0 := 11) (pc' := 20) rfl (hb hby d1_11) rfl (flt hc11_1).2.1 (by decide) (by decide) kq_) ?_
    show Gl p e below _ (s₁.setTop (mkF m 20 #[.val (.int p1), .val (.int k)] []))
    refine Gl.of (fun _ kq_ => XS.iloadN X0.here hx rfl (hb hby d1_20) rfl kq_) ?_
    show Gl p e below _ (s₁.setTop (mkF m 21 #[.val (.int p1), .val (.int k)] [(.int k)]))
    refine Gl.of (fun _ kq_ => XS.bipush X0.here hx rfl (hb hby d1_21) kq_) ?_
    show Gl p e below _ (s₁.setTop (mkF m 23 #[.val (.int p1), .val (.int k)] [(.int (52 : Int32)), (.int k)]))
    by_cases hc23_2 : k < (52 : Int32)
    · refine Gl.of (fun _ kq_ => XS.icmpNo X0.here hx rfl (hb hby d1_23) rfl (tlt hc23_2).2.1 kq_) ?_
      show Gl p e below _ (s₁.setTop (mkF m 26 #[.val (.int p1), .val (.int k)] []))
      refine Gl.of (fun _ kq_ => XS.bipush X0.here hx rfl (hb hby d1_26) kq_) ?_
      show Gl p e below _ (s₁.setTop (mkF m 28 #[.val (.int p1), .val (.int k)] [(.int (65 : Int32))]))
      refine Gl.of (fun _ kq_ => XS.iloadN X0.here hx rfl (hb hby d1_28) rfl kq_) ?_
      show Gl p e below _ (s₁.setTop (mkF m 29 #[.val (.int p1), .val (.int k)] [(.int k), (.int (65 : Int32))]))
      refine Gl.of (fun _ kq_ => XS.bipush X0.here hx rfl (hb hby d1_29) kq_) ?_
      show Gl p e below _ (s₁.setTop (mkF m 31 #[.val (.int p1), .val (.int k)] [(.int (26 : Int32)), (.int k), (.int (65 : Int32))]))
      refine Gl.of (fun _ kq_ => XS.isub X0.here hx rfl (hb hby d1_31) rfl kq_) ?_
      show Gl p e below _ (s₁.setTop (mkF m 32 #[.val (.int p1), .val (.int k)] [(.int (k - (26 : Int32))), (.int (65 : Int32))]))
      refine Gl.of (fun _ kq_ => XS.iadd X0.here hx rfl (hb hby d1_32) rfl kq_) ?_
      show Gl p e below _ (s₁.setTop (mkF m 33 #[.val (.int p1), .val (.int k)] [(.int ((65 : Int32) + (k - (26 : Int32))))]))
      refine Gl.of (fun _ kq_ => XS.i2c X0.here hx rfl (hb hby d1_33) rfl kq_) ?_
      show Gl p e below _ (s₁.setTop (mkF m 34 #[.val (.int p1), .val (.int k)] [(.int (((65 : Int32) + (k - (26 : Int32))).toUInt32.toUInt16.toUInt32.toInt32))]))
      exact Gl.retN X0 hx hlk hret (by simp) (hb hby d1_34) e0 (⟨⟨_, rfl, own_l52 hc11_1 hc23_2⟩, rfl, rfl⟩) (by decide) (by decide)
    · refine Gl.of (fun _ kq_ => XS.icmpYes X0.here hx rfl (pc0 := 23) (pc' := 35) rfl (hb hby d1_23) rfl (flt hc23_2).2.1 (by decide) (by decide) kq_) ?_
      show Gl p e below _ (s₁.setTop (mkF m 35 #[.val (.int p1), .val (.int k)] []))
      refine Gl.of (fun _ kq_ => XS.bipush X0.here hx rfl (hb hby d1_35) kq_) ?_
      show Gl p e below _ (s₁.setTop (mkF m 37 #[.val (.int p1), .val (.int k)] [(.int (95 : Int32))]))
      exact Gl.retN X0 hx hlk hret (by simp) (hb hby d1_37) e0 (⟨⟨_, rfl, own_95⟩, rfl, rfl⟩) (by decide) (by decide)
theorem ef_2 (m : MethodId) (x0 : Int32) : entryFrame m #[(.int x0)] 2 = mkF m 0 #[.val (.int x0), .unset] [] := by first | (simp [entryFrame, mkF, argsToLocals, Value.category, maxLocals]; done) | rfl
theorem d2_0 : decode method_2_code 0 = .ok (.iload_n 0, 1) := by decide +kernel
theorem d2_1 : decode method_2_code 1 = .ok (.ldc 7, 2) := by decide +kernel
theorem d2_3 : decode method_2_code 3 = .ok (.iand, 1) := by decide +kernel
theorem d2_4 : decode method_2_code 4 = .ok (.bipush 63, 2) := by decide +kernel
theorem d2_6 : decode method_2_code 6 = .ok (.irem, 1) := by decide +kernel
theorem d2_7 : decode method_2_code 7 = .ok (.istore_n 1, 1) := by decide +kernel
theorem d2_8 : decode method_2_code 8 = .ok (.iload_n 1, 1) := by decide +kernel
theorem d2_9 : decode method_2_code 9 = .ok (.bipush 26, 2) := by decide +kernel
theorem d2_11 : decode method_2_code 11 = .ok (.if_icmp .ge 9, 3) := by decide +kernel
theorem d2_14 : decode method_2_code 14 = .ok (.bipush 97, 2) := by decide +kernel
theorem d2_16 : decode method_2_code 16 = .ok (.iload_n 1, 1) := by decide +kernel
theorem d2_17 : decode method_2_code 17 = .ok (.iadd, 1) := by decide +kernel
theorem d2_18 : decode method_2_code 18 = .ok (.i2c, 1) := by decide +kernel
theorem d2_19 : decode method_2_code 19 = .ok (.ireturn, 1) := by decide +kernel
theorem d2_20 : decode method_2_code 20 = .ok (.iload_n 1, 1) := by decide +kernel
theorem d2_21 : decode method_2_code 21 = .ok (.bipush 52, 2) := by decide +kernel
theorem d2_23 : decode method_2_code 23 = .ok (.if_icmp .ge 12, 3) := by decide +kernel
theorem d2_26 : decode method_2_code 26 = .ok (.bipush 65, 2) := by decide +kernel
theorem d2_28 : decode method_2_code 28 = .ok (.iload_n 1, 1) := by decide +kernel
theorem d2_29 : decode method_2_code 29 = .ok (.bipush 26, 2) := by decide +kernel
theorem d2_31 : decode method_2_code 31 = .ok (.isub, 1) := by decide +kernel
theorem d2_32 : decode method_2_code 32 = .ok (.iadd, 1) := by decide +kernel
theorem d2_33 : decode method_2_code 33 = .ok (.i2c, 1) := by decide +kernel
theorem d2_34 : decode method_2_code 34 = .ok (.ireturn, 1) := by decide +kernel
theorem d2_35 : decode method_2_code 35 = .ok (.iload_n 1, 1) := by decide +kernel
theorem d2_36 : decode method_2_code 36 = .ok (.bipush 62, 2) := by decide +kernel
theorem d2_38 : decode method_2_code 38 = .ok (.if_icmp .ge 12, 3) := by decide +kernel
theorem d2_41 : decode method_2_code 41 = .ok (.bipush 48, 2) := by decide +kernel
theorem d2_43 : decode method_2_code 43 = .ok (.iload_n 1, 1) := by decide +kernel
theorem d2_44 : decode method_2_code 44 = .ok (.bipush 52, 2) := by decide +kernel
theorem d2_46 : decode method_2_code 46 = .ok (.isub, 1) := by decide +kernel
theorem d2_47 : decode method_2_code 47 = .ok (.iadd, 1) := by decide +kernel
theorem d2_48 : decode method_2_code 48 = .ok (.i2c, 1) := by decide +kernel
theorem d2_49 : decode method_2_code 49 = .ok (.ireturn, 1) := by decide +kernel
theorem d2_50 : decode method_2_code 50 = .ok (.bipush 95, 2) := by decide +kernel
theorem d2_52 : decode method_2_code 52 = .ok (.ireturn, 1) := by decide +kernel
set_option maxRecDepth 65536 in
set_option maxHeartbeats 40000000 in
theorem rm2 (l : Launch) (Z : State) (a0 : Array Value) (hw : ∀ d ∈ tables_1, d.before a0 Z = true) (h0 : Heap) (p1 : Int32) : Con l Z (⟨"com/example/schenley/schenley/IdentifierEqualsPinLaw", "anyPlain", "(I)C"⟩ : MethodName) method_2_code 2 (some .char) [] ({ frames := 0, cells := 0, slots := 0, locals := 0 } : Room) 0 0 #[(.int p1)] h0 (Pur (fun v => ∃ c, v = some (.int c) ∧ own_any c) h0) := by
  refine Con.intro (plainFor_of_name pn_0) ?_
  intro p e s m below meth c s₁ X0 hx hby hml hZ hown hnm hret hlk e0 hs0
  refine Gl.of (fun _ kq_ => castTop (ef_2 m p1) kq_) ?_
  show Gl p e below _ (s₁.setTop (mkF m 0 #[.val (.int p1), .unset] []))
  refine Gl.of (fun _ kq_ => XS.iloadN X0.here hx rfl (hb hby d2_0) rfl kq_) ?_
  show Gl p e below _ (s₁.setTop (mkF m 1 #[.val (.int p1), .unset] [(.int p1)]))
  refine Gl.of (fun _ kq_ => X0.ldcInt hx hown (mvT hZ (w4 hw)) (g := (mkF m 1 #[.val (.int p1), .unset] [(.int p1)])) rfl (hb hby d2_1) _ kq_) ?_
  show Gl p e below _ (s₁.setTop (mkF m 3 #[.val (.int p1), .unset] [(.int (2147483647 : Int32)), (.int p1)]))
  refine Gl.of (fun _ kq_ => XS.iand X0.here hx rfl (hb hby d2_3) rfl kq_) ?_
  show Gl p e below _ (s₁.setTop (mkF m 4 #[.val (.int p1), .unset] [(.int (p1 &&& (2147483647 : Int32)))]))
  refine Gl.of (fun _ kq_ => XS.bipush X0.here hx rfl (hb hby d2_4) kq_) ?_
  show Gl p e below _ (s₁.setTop (mkF m 6 #[.val (.int p1), .unset] [(.int (63 : Int32)), (.int (p1 &&& (2147483647 : Int32)))]))
  refine Gl.of (fun _ kq_ => iremM X0 hx rfl (hb hby d2_6) rfl (by decide) kq_) ?_
  show Gl p e below _ (s₁.setTop (mkF m 7 #[.val (.int p1), .unset] [(.int ((p1 &&& (2147483647 : Int32)) % (63 : Int32)))]))
  refine Gl.of (fun _ kq_ => XS.istoreN X0.here hx rfl (hb hby d2_7) rfl (l' := #[.val (.int p1), .val (.int ((p1 &&& (2147483647 : Int32)) % (63 : Int32)))]) rfl kq_) ?_
  show Gl p e below _ (s₁.setTop (mkF m 8 #[.val (.int p1), .val (.int ((p1 &&& (2147483647 : Int32)) % (63 : Int32)))] []))
  suffices J8 : ∀ k : Int32, (0 ≤ k.toInt ∧ k.toInt < 63) → Gl p e below (Gd s (Pur (fun v => ∃ c, v = some (.int c) ∧ own_any c) h0) 0 0) (s₁.setTop (mkF m 8 #[.val (.int p1), .val (.int k)] [])) from J8 _ (own_md p1 (63 : Int32) (by decide))
  intro k hk'
  show Gl p e below _ (s₁.setTop (mkF m 8 #[.val (.int p1), .val (.int k)] []))
  refine Gl.of (fun _ kq_ => XS.iloadN X0.here hx rfl (hb hby d2_8) rfl kq_) ?_
  show Gl p e below _ (s₁.setTop (mkF m 9 #[.val (.int p1), .val (.int k)] [(.int k)]))
  refine Gl.of (fun _ kq_ => XS.bipush X0.here hx rfl (hb hby d2_9) kq_) ?_
  show Gl p e below _ (s₁.setTop (mkF m 11 #[.val (.int p1), .val (.int k)] [(.int (26 : Int32)), (.int k)]))
  by_cases hc11_1 : k < (26 : Int32)
  · refine Gl.of (fun _ kq_ => XS.icmpNo X0.here hx rfl (hb hby d2_11) rfl (tlt hc11_1).2.1 kq_) ?_
    show Gl p e below _ (s₁.setTop (mkF m 14 #[.val (.int p1), .val (.int k)] []))
    refine Gl.of (fun _ kq_ => XS.bipush X0.here hx rfl (hb hby d2_14) kq_) ?_
    show Gl p e below _ (s₁.setTop (mkF m 16 #[.val (.int p1), .val (.int k)] [(.int (97 : Int32))]))
    refine Gl.of (fun _ kq_ => XS.iloadN X0.here hx rfl (hb hby d2_16) rfl kq_) ?_
    show Gl p e below _ (s₁.setTop (mkF m 17 #[.val (.int p1), .val (.int k)] [(.int k), (.int (97 : Int32))]))
    refine Gl.of (fun _ kq_ => XS.iadd X0.here hx rfl (hb hby d2_17) rfl kq_) ?_
    show Gl p e below _ (s₁.setTop (mkF m 18 #[.val (.int p1), .val (.int k)] [(.int ((97 : Int32) + k))]))
    refine Gl.of (fun _ kq_ => XS.i2c X0.here hx rfl (hb hby d2_18) rfl kq_) ?_
    show Gl p e below _ (s₁.setTop (mkF m 19 #[.val (.int p1), .val (.int k)] [(.int (((97 : Int32) + k).toUInt32.toUInt16.toUInt32.toInt32))]))
    exact Gl.retN X0 hx hlk hret (by simp) (hb hby d2_19) e0 (⟨⟨_, rfl, own_fa (own_l26 hk'.1 hc11_1)⟩, rfl, rfl⟩) (by decide) (by decide)
  · refine Gl.of (fun _ kq_ => XS.icmpYes X0.here hx rfl (pc0 := 11) (pc' := 20) rfl (hb hby d2_11) rfl (flt hc11_1).2.1 (by decide) (by decide) kq_) ?_
    show Gl p e below _ (s₁.setTop (mkF m 20 #[.val (.int p1), .val (.int k)] []))
    refine Gl.of (fun _ kq_ => XS.iloadN X0.here hx rfl (hb hby d2_20) rfl kq_) ?_
    show Gl p e below _ (s₁.setTop (mkF m 21 #[.val (.int p1), .val (.int k)] [(.int k)]))
    refine Gl.of (fun _ kq_ => XS.bipush X0.here hx rfl (hb hby d2_21) kq_) ?_
    show Gl p e below _ (s₁.setTop (mkF m 23 #[.val (.int p1), .val (.int k)] [(.int (52 : Int32)), (.int k)]))
    by_cases hc23_2 : k < (52 : Int32)
    · refine Gl.of (fun _ kq_ => XS.icmpNo X0.here hx rfl (hb hby d2_23) rfl (tlt hc23_2).2.1 kq_) ?_
      show Gl p e below _ (s₁.setTop (mkF m 26 #[.val (.int p1), .val (.int k)] []))
      refine Gl.of (fun _ kq_ => XS.bipush X0.here hx rfl (hb hby d2_26) kq_) ?_
      show Gl p e below _ (s₁.setTop (mkF m 28 #[.val (.int p1), .val (.int k)] [(.int (65 : Int32))]))
      refine Gl.of (fun _ kq_ => XS.iloadN X0.here hx rfl (hb hby d2_28) rfl kq_) ?_
      show Gl p e below _ (s₁.setTop (mkF m 29 #[.val (.int p1), .val (.int k)] [(.int k), (.int (65 : Int32))]))
      refine Gl.of (fun _ kq_ => XS.bipush X0.here hx rfl (hb hby d2_29) kq_) ?_
      show Gl p e below _ (s₁.setTop (mkF m 31 #[.val (.int p1), .val (.int k)] [(.int (26 : Int32)), (.int k), (.int (65 : Int32))]))
      refine Gl.of (fun _ kq_ => XS.isub X0.here hx rfl (hb hby d2_31) rfl kq_) ?_
      show Gl p e below _ (s₁.setTop (mkF m 32 #[.val (.int p1), .val (.int k)] [(.int (k - (26 : Int32))), (.int (65 : Int32))]))
      refine Gl.of (fun _ kq_ => XS.iadd X0.here hx rfl (hb hby d2_32) rfl kq_) ?_
      show Gl p e below _ (s₁.setTop (mkF m 33 #[.val (.int p1), .val (.int k)] [(.int ((65 : Int32) + (k - (26 : Int32))))]))
      refine Gl.of (fun _ kq_ => XS.i2c X0.here hx rfl (hb hby d2_33) rfl kq_) ?_
      show Gl p e below _ (s₁.setTop (mkF m 34 #[.val (.int p1), .val (.int k)] [(.int (((65 : Int32) + (k - (26 : Int32))).toUInt32.toUInt16.toUInt32.toInt32))]))
      exact Gl.retN X0 hx hlk hret (by simp) (hb hby d2_34) e0 (⟨⟨_, rfl, own_fa (own_l52 hc11_1 hc23_2)⟩, rfl, rfl⟩) (by decide) (by decide)
    · refine Gl.of (fun _ kq_ => XS.icmpYes X0.here hx rfl (pc0 := 23) (pc' := 35) rfl (hb hby d2_23) rfl (flt hc23_2).2.1 (by decide) (by decide) kq_) ?_
      show Gl p e below _ (s₁.setTop (mkF m 35 #[.val (.int p1), .val (.int k)] []))
      refine Gl.of (fun _ kq_ => XS.iloadN X0.here hx rfl (hb hby d2_35) rfl kq_) ?_
      show Gl p e below _ (s₁.setTop (mkF m 36 #[.val (.int p1), .val (.int k)] [(.int k)]))
      refine Gl.of (fun _ kq_ => XS.bipush X0.here hx rfl (hb hby d2_36) kq_) ?_
      show Gl p e below _ (s₁.setTop (mkF m 38 #[.val (.int p1), .val (.int k)] [(.int (62 : Int32)), (.int k)]))
      by_cases hc38_3 : k < (62 : Int32)
      · refine Gl.of (fun _ kq_ => XS.icmpNo X0.here hx rfl (hb hby d2_38) rfl (tlt hc38_3).2.1 kq_) ?_
        show Gl p e below _ (s₁.setTop (mkF m 41 #[.val (.int p1), .val (.int k)] []))
        refine Gl.of (fun _ kq_ => XS.bipush X0.here hx rfl (hb hby d2_41) kq_) ?_
        show Gl p e below _ (s₁.setTop (mkF m 43 #[.val (.int p1), .val (.int k)] [(.int (48 : Int32))]))
        refine Gl.of (fun _ kq_ => XS.iloadN X0.here hx rfl (hb hby d2_43) rfl kq_) ?_
        show Gl p e below _ (s₁.setTop (mkF m 44 #[.val (.int p1), .val (.int k)] [(.int k), (.int (48 : Int32))]))
        refine Gl.of (fun _ kq_ => XS.bipush X0.here hx rfl (hb hby d2_44) kq_) ?_
        show Gl p e below _ (s₁.setTop (mkF m 46 #[.val (.int p1), .val (.int k)] [(.int (52 : Int32)), (.int k), (.int (48 : Int32))]))
        refine Gl.of (fun _ kq_ => XS.isub X0.here hx rfl (hb hby d2_46) rfl kq_) ?_
        show Gl p e below _ (s₁.setTop (mkF m 47 #[.val (.int p1), .val (.int k)] [(.int (k - (52 : Int32))), (.int (48 : Int32))]))
        refine Gl.of (fun _ kq_ => XS.iadd X0.here hx rfl (hb hby d2_47) rfl kq_) ?_
        show Gl p e below _ (s₁.setTop (mkF m 48 #[.val (.int p1), .val (.int k)] [(.int ((48 : Int32) + (k - (52 : Int32))))]))
        refine Gl.of (fun _ kq_ => XS.i2c X0.here hx rfl (hb hby d2_48) rfl kq_) ?_
        show Gl p e below _ (s₁.setTop (mkF m 49 #[.val (.int p1), .val (.int k)] [(.int (((48 : Int32) + (k - (52 : Int32))).toUInt32.toUInt16.toUInt32.toInt32))]))
        exact Gl.retN X0 hx hlk hret (by simp) (hb hby d2_49) e0 (⟨⟨_, rfl, own_l62 hc23_2 hc38_3⟩, rfl, rfl⟩) (by decide) (by decide)
      · refine Gl.of (fun _ kq_ => XS.icmpYes X0.here hx rfl (pc0 := 38) (pc' := 50) rfl (hb hby d2_38) rfl (flt hc38_3).2.1 (by decide) (by decide) kq_) ?_
        show Gl p e below _ (s₁.setTop (mkF m 50 #[.val (.int p1), .val (.int k)] []))
        refine Gl.of (fun _ kq_ => XS.bipush X0.here hx rfl (hb hby d2_50) kq_) ?_
        show Gl p e below _ (s₁.setTop (mkF m 52 #[.val (.int p1), .val (.int k)] [(.int (95 : Int32))]))
        exact Gl.retN X0 hx hlk hret (by simp) (hb hby d2_52) e0 (⟨⟨_, rfl, own_fa (own_95)⟩, rfl, rfl⟩) (by decide) (by decide)
theorem ef_3 (m : MethodId) (x0 : Int32) : entryFrame m #[(.int x0)] 1 = mkF m 0 #[.val (.int x0)] [] := by first | (simp [entryFrame, mkF, argsToLocals, Value.category, maxLocals]; done) | rfl
theorem pn_1 : plainName "com/example/schenley/schenley/Identifier" = true := by first | (simp [plainName, overriddenIn]; done) | decide +kernel
theorem d21_0 : decode prog_10_method_6_code 0 = .ok (.iload_n 0, 1) := by decide +kernel
theorem d21_1 : decode prog_10_method_6_code 1 = .ok (.bipush 48, 2) := by decide +kernel
theorem d21_3 : decode prog_10_method_6_code 3 = .ok (.if_icmp .lt 13, 3) := by decide +kernel
theorem d21_16 : decode prog_10_method_6_code 16 = .ok (.iconst 0, 1) := by decide +kernel
theorem d21_17 : decode prog_10_method_6_code 17 = .ok (.ireturn, 1) := by decide +kernel
theorem d21_6 : decode prog_10_method_6_code 6 = .ok (.iload_n 0, 1) := by decide +kernel
theorem d21_7 : decode prog_10_method_6_code 7 = .ok (.bipush 57, 2) := by decide +kernel
theorem d21_9 : decode prog_10_method_6_code 9 = .ok (.if_icmp .gt 7, 3) := by decide +kernel
theorem d21_12 : decode prog_10_method_6_code 12 = .ok (.iconst 1, 1) := by decide +kernel
theorem d21_13 : decode prog_10_method_6_code 13 = .ok (.goto 4, 3) := by decide +kernel
set_option maxRecDepth 65536 in
set_option maxHeartbeats 40000000 in
theorem rmD (l : Launch) (Z : State) (a0 : Array Value) (hw : ∀ d ∈ tables_1, d.before a0 Z = true) (h0 : Heap) (p1 : Int32) : Con l Z (⟨"com/example/schenley/schenley/Identifier", "isDigit", "(C)Z"⟩ : MethodName) prog_10_method_6_code 1 (some .boolean) [] ({ frames := 0, cells := 0, slots := 0, locals := 0 } : Room) 0 0 #[(.int p1)] h0 (Pur (fun v => v = some (.int (own_dig p1))) h0) := by
  refine Con.intro (plainFor_of_name pn_1) ?_
  intro p e s m below meth c s₁ X0 hx hby hml hZ hown hnm hret hlk e0 hs0
  refine Gl.of (fun _ kq_ => castTop (ef_3 m p1) kq_) ?_
  show Gl p e below _ (s₁.setTop (mkF m 0 #[.val (.int p1)] []))
  refine Gl.of (fun _ kq_ => XS.iloadN X0.here hx rfl (hb hby d21_0) rfl kq_) ?_
  show Gl p e below _ (s₁.setTop (mkF m 1 #[.val (.int p1)] [(.int p1)]))
  refine Gl.of (fun _ kq_ => XS.bipush X0.here hx rfl (hb hby d21_1) kq_) ?_
  show Gl p e below _ (s₁.setTop (mkF m 3 #[.val (.int p1)] [(.int (48 : Int32)), (.int p1)]))
  by_cases hc3_1 : p1 < (48 : Int32)
  · refine Gl.of (fun _ kq_ => XS.icmpYes X0.here hx rfl (pc0 := 3) (pc' := 16) rfl (hb hby d21_3) rfl (tlt hc3_1).1 (by decide) (by decide) kq_) ?_
    show Gl p e below _ (s₁.setTop (mkF m 16 #[.val (.int p1)] []))
    refine Gl.of (fun _ kq_ => XS.iconst X0.here hx rfl (hb hby d21_16) kq_) ?_
    show Gl p e below _ (s₁.setTop (mkF m 17 #[.val (.int p1)] [(.int (0 : Int32))]))
    exact Gl.retN X0 hx hlk hret (by simp) (hb hby d21_17) e0 (⟨by simp [own_dig, own_nb1, own_nb0, hc3_1], rfl, rfl⟩) (by decide) (by decide)
  · refine Gl.of (fun _ kq_ => XS.icmpNo X0.here hx rfl (hb hby d21_3) rfl (flt hc3_1).1 kq_) ?_
    show Gl p e below _ (s₁.setTop (mkF m 6 #[.val (.int p1)] []))
    refine Gl.of (fun _ kq_ => XS.iloadN X0.here hx rfl (hb hby d21_6) rfl kq_) ?_
    show Gl p e below _ (s₁.setTop (mkF m 7 #[.val (.int p1)] [(.int p1)]))
    refine Gl.of (fun _ kq_ => XS.bipush X0.here hx rfl (hb hby d21_7) kq_) ?_
    show Gl p e below _ (s₁.setTop (mkF m 9 #[.val (.int p1)] [(.int (57 : Int32)), (.int p1)]))
    by_cases hc9_2 : (57 : Int32) < p1
    · refine Gl.of (fun _ kq_ => XS.icmpYes X0.here hx rfl (pc0 := 9) (pc' := 16) rfl (hb hby d21_9) rfl (tlt hc9_2).2.2.1 (by decide) (by decide) kq_) ?_
      show Gl p e below _ (s₁.setTop (mkF m 16 #[.val (.int p1)] []))
      refine Gl.of (fun _ kq_ => XS.iconst X0.here hx rfl (hb hby d21_16) kq_) ?_
      show Gl p e below _ (s₁.setTop (mkF m 17 #[.val (.int p1)] [(.int (0 : Int32))]))
      exact Gl.retN X0 hx hlk hret (by simp) (hb hby d21_17) e0 (⟨by simp [own_dig, own_nb1, own_nb0, hc3_1, hc9_2], rfl, rfl⟩) (by decide) (by decide)
    · refine Gl.of (fun _ kq_ => XS.icmpNo X0.here hx rfl (hb hby d21_9) rfl (flt hc9_2).2.2.1 kq_) ?_
      show Gl p e below _ (s₁.setTop (mkF m 12 #[.val (.int p1)] []))
      refine Gl.of (fun _ kq_ => XS.iconst X0.here hx rfl (hb hby d21_12) kq_) ?_
      show Gl p e below _ (s₁.setTop (mkF m 13 #[.val (.int p1)] [(.int (1 : Int32))]))
      refine Gl.of (fun _ kq_ => XS.goto X0.here hx rfl (pc0 := 13) (pc' := 17) rfl (hb hby d21_13) (by decide) (by decide) kq_) ?_
      show Gl p e below _ (s₁.setTop (mkF m 17 #[.val (.int p1)] [(.int (1 : Int32))]))
      exact Gl.retN X0 hx hlk hret (by simp) (hb hby d21_17) e0 (⟨by simp [own_dig, own_nb1, own_nb0, hc3_1, hc9_2], rfl, rfl⟩) (by decide) (by decide)
theorem ef_4 (m : MethodId) (x0 : Int32) : entryFrame m #[(.int x0)] 1 = mkF m 0 #[.val (.int x0)] [] := by first | (simp [entryFrame, mkF, argsToLocals, Value.category, maxLocals]; done) | rfl
theorem d22_0 : decode prog_10_method_5_code 0 = .ok (.iload_n 0, 1) := by decide +kernel
theorem d22_1 : decode prog_10_method_5_code 1 = .ok (.bipush 97, 2) := by decide +kernel
theorem d22_3 : decode prog_10_method_5_code 3 = .ok (.if_icmp .lt 9, 3) := by decide +kernel
theorem d22_12 : decode prog_10_method_5_code 12 = .ok (.iload_n 0, 1) := by decide +kernel
theorem d22_13 : decode prog_10_method_5_code 13 = .ok (.bipush 65, 2) := by decide +kernel
theorem d22_15 : decode prog_10_method_5_code 15 = .ok (.if_icmp .lt 9, 3) := by decide +kernel
theorem d22_24 : decode prog_10_method_5_code 24 = .ok (.iload_n 0, 1) := by decide +kernel
theorem d22_25 : decode prog_10_method_5_code 25 = .ok (.invokestatic 41, 3) := by decide +kernel
theorem pd_0 : parseMethodDescriptor "(C)Z" = some ⟨[.char], some .boolean⟩ := by decide +kernel
theorem w97 {Z : State} {a0 : Array Value} (hw : ∀ d ∈ tables_1, d.before a0 Z = true) : (Jvm.Cond.methodLink "com/example/schenley/schenley/Identifier" (41 : Nat) ({ cls := "com/example/schenley/schenley/Identifier", name := "isDigit", desc := "(C)Z" } : Jvm.MethodName)).before a0 Z = true := hw _ (List.mem_of_getElem? (i := 97) rfl)
theorem w98 {Z : State} {a0 : Array Value} (hw : ∀ d ∈ tables_1, d.before a0 Z = true) : (Jvm.Cond.static ({ cls := "com/example/schenley/schenley/Identifier", name := "isDigit", desc := "(C)Z" } : Jvm.MethodName)).before a0 Z = true := hw _ (List.mem_of_getElem? (i := 98) rfl)
theorem w43 {Z : State} {a0 : Array Value} (hw : ∀ d ∈ tables_1, d.before a0 Z = true) : (Jvm.Cond.initialized "com/example/schenley/schenley/Identifier").before a0 Z = true := hw _ (List.mem_of_getElem? (i := 43) rfl)
theorem w99 {Z : State} {a0 : Array Value} (hw : ∀ d ∈ tables_1, d.before a0 Z = true) : (Jvm.Cond.code ({ cls := "com/example/schenley/schenley/Identifier", name := "isDigit", desc := "(C)Z" } : Jvm.MethodName) prog_10_method_6_code (1 : Nat) (Option.some Jvm.ClassFile.FieldType.boolean)).before a0 Z = true := hw _ (List.mem_of_getElem? (i := 99) rfl)
theorem d22_28 : decode prog_10_method_5_code 28 = .ok (.ifCond .ne 9, 3) := by decide +kernel
theorem d22_31 : decode prog_10_method_5_code 31 = .ok (.iload_n 0, 1) := by decide +kernel
theorem d22_32 : decode prog_10_method_5_code 32 = .ok (.bipush 95, 2) := by decide +kernel
theorem d22_34 : decode prog_10_method_5_code 34 = .ok (.if_icmp .ne 7, 3) := by decide +kernel
theorem d22_37 : decode prog_10_method_5_code 37 = .ok (.iconst 1, 1) := by decide +kernel
theorem d22_38 : decode prog_10_method_5_code 38 = .ok (.goto 4, 3) := by decide +kernel
theorem d22_42 : decode prog_10_method_5_code 42 = .ok (.ireturn, 1) := by decide +kernel
theorem d22_41 : decode prog_10_method_5_code 41 = .ok (.iconst 0, 1) := by decide +kernel
theorem d22_18 : decode prog_10_method_5_code 18 = .ok (.iload_n 0, 1) := by decide +kernel
theorem d22_19 : decode prog_10_method_5_code 19 = .ok (.bipush 90, 2) := by decide +kernel
theorem d22_21 : decode prog_10_method_5_code 21 = .ok (.if_icmp .le 16, 3) := by decide +kernel
theorem d22_6 : decode prog_10_method_5_code 6 = .ok (.iload_n 0, 1) := by decide +kernel
theorem d22_7 : decode prog_10_method_5_code 7 = .ok (.bipush 122, 2) := by decide +kernel
theorem d22_9 : decode prog_10_method_5_code 9 = .ok (.if_icmp .le 28, 3) := by decide +kernel
set_option maxRecDepth 65536 in
set_option maxHeartbeats 40000000 in
theorem rmP (l : Launch) (Z : State) (a0 : Array Value) (hw : ∀ d ∈ tables_1, d.before a0 Z = true) (h0 : Heap) (p1 : Int32) : Con l Z (⟨"com/example/schenley/schenley/Identifier", "isPlain", "(C)Z"⟩ : MethodName) prog_10_method_5_code 1 (some .boolean) [] ({ frames := 1, cells := 0, slots := 0, locals := 12 } : Room) 0 0 #[(.int p1)] h0 (Pur (fun v => v = some (.int (own_pln p1))) h0) := by
  refine Con.intro (plainFor_of_name pn_1) ?_
  intro p e s m below meth c s₁ X0 hx hby hml hZ hown hnm hret hlk e0 hs0
  refine Gl.of (fun _ kq_ => castTop (ef_4 m p1) kq_) ?_
  show Gl p e below _ (s₁.setTop (mkF m 0 #[.val (.int p1)] []))
  refine Gl.of (fun _ kq_ => XS.iloadN X0.here hx rfl (hb hby d22_0) rfl kq_) ?_
  show Gl p e below _ (s₁.setTop (mkF m 1 #[.val (.int p1)] [(.int p1)]))
  refine Gl.of (fun _ kq_ => XS.bipush X0.here hx rfl (hb hby d22_1) kq_) ?_
  show Gl p e below _ (s₁.setTop (mkF m 3 #[.val (.int p1)] [(.int (97 : Int32)), (.int p1)]))
  by_cases hc3_1 : p1 < (97 : Int32)
  · refine Gl.of (fun _ kq_ => XS.icmpYes X0.here hx rfl (pc0 := 3) (pc' := 12) rfl (hb hby d22_3) rfl (tlt hc3_1).1 (by decide) (by decide) kq_) ?_
    show Gl p e below _ (s₁.setTop (mkF m 12 #[.val (.int p1)] []))
    refine Gl.of (fun _ kq_ => XS.iloadN X0.here hx rfl (hb hby d22_12) rfl kq_) ?_
    show Gl p e below _ (s₁.setTop (mkF m 13 #[.val (.int p1)] [(.int p1)]))
    refine Gl.of (fun _ kq_ => XS.bipush X0.here hx rfl (hb hby d22_13) kq_) ?_
    show Gl p e below _ (s₁.setTop (mkF m 15 #[.val (.int p1)] [(.int (65 : Int32)), (.int p1)]))
    by_cases hc15_2 : p1 < (65 : Int32)
    · refine Gl.of (fun _ kq_ => XS.icmpYes X0.here hx rfl (pc0 := 15) (pc' := 24) rfl (hb hby d22_15) rfl (tlt hc15_2).1 (by decide) (by decide) kq_) ?_
      show Gl p e below _ (s₁.setTop (mkF m 24 #[.val (.int p1)] []))
      refine Gl.of (fun _ kq_ => XS.iloadN X0.here hx rfl (hb hby d22_24) rfl kq_) ?_
      show Gl p e below _ (s₁.setTop (mkF m 25 #[.val (.int p1)] [(.int p1)]))
      refine Gl.callS0 X0 hx hZ (y := (⟨"com/example/schenley/schenley/Identifier", "isDigit", "(C)Z"⟩ : MethodName)) hown (w97 hw) (w98 hw) (w43 hw) (w99 hw) (desc_ne (by decide)) (argsL := [(.int p1)]) (rest := []) (rmD l Z a0 hw _ p1) 0 (by decide) (by decide) e0 (pc := 25) (Ls := #[.val (.int p1)]) (st := [(.int p1)]) (by rw [hml]; rfl) pd_0 rfl rfl (Nat.le_of_eq rfl) (hb hby d22_25) (by decide) (by decide) ?_
      intro v3 T3 X3 e3 hv3
      subst hv3
      show Gl p e below _ (T3.setTop (mkF m 28 #[.val (.int p1)] [(.int (own_dig p1))]))
      by_cases hc28_4 : (own_dig p1) = (0 : Int32)
      · refine Gl.of (fun _ kq_ => XS.ifNo X3.here hx rfl (hb hby d22_28) rfl ((if0 _ _).trans (teq hc28_4).2) kq_) ?_
        show Gl p e below _ (T3.setTop (mkF m 31 #[.val (.int p1)] []))
        refine Gl.of (fun _ kq_ => XS.iloadN X3.here hx rfl (hb hby d22_31) rfl kq_) ?_
        show Gl p e below _ (T3.setTop (mkF m 32 #[.val (.int p1)] [(.int p1)]))
        refine Gl.of (fun _ kq_ => XS.bipush X3.here hx rfl (hb hby d22_32) kq_) ?_
        show Gl p e below _ (T3.setTop (mkF m 34 #[.val (.int p1)] [(.int (95 : Int32)), (.int p1)]))
        by_cases hc34_5 : p1 = (95 : Int32)
        · refine Gl.of (fun _ kq_ => XS.icmpNo X3.here hx rfl (hb hby d22_34) rfl (teq hc34_5).2 kq_) ?_
          show Gl p e below _ (T3.setTop (mkF m 37 #[.val (.int p1)] []))
          refine Gl.of (fun _ kq_ => XS.iconst X3.here hx rfl (hb hby d22_37) kq_) ?_
          show Gl p e below _ (T3.setTop (mkF m 38 #[.val (.int p1)] [(.int (1 : Int32))]))
          refine Gl.of (fun _ kq_ => XS.goto X3.here hx rfl (pc0 := 38) (pc' := 42) rfl (hb hby d22_38) (by decide) (by decide) kq_) ?_
          show Gl p e below _ (T3.setTop (mkF m 42 #[.val (.int p1)] [(.int (1 : Int32))]))
          exact Gl.retN X3 hx hlk hret (by simp) (hb hby d22_42) e3 (⟨by simp [own_pln, own_nb1, own_nb0, hc3_1, hc15_2, hc28_4, hc34_5], rfl, rfl⟩) (by decide) (by decide)
        · refine Gl.of (fun _ kq_ => XS.icmpYes X3.here hx rfl (pc0 := 34) (pc' := 41) rfl (hb hby d22_34) rfl (feq hc34_5).2 (by decide) (by decide) kq_) ?_
          show Gl p e below _ (T3.setTop (mkF m 41 #[.val (.int p1)] []))
          refine Gl.of (fun _ kq_ => XS.iconst X3.here hx rfl (hb hby d22_41) kq_) ?_
          show Gl p e below _ (T3.setTop (mkF m 42 #[.val (.int p1)] [(.int (0 : Int32))]))
          exact Gl.retN X3 hx hlk hret (by simp) (hb hby d22_42) e3 (⟨by simp [own_pln, own_nb1, own_nb0, hc3_1, hc15_2, hc28_4, hc34_5], rfl, rfl⟩) (by decide) (by decide)
      · refine Gl.of (fun _ kq_ => XS.ifYes X3.here hx rfl (pc0 := 28) (pc' := 37) rfl (hb hby d22_28) rfl ((if0 _ _).trans (feq hc28_4).2) (by decide) (by decide) kq_) ?_
        show Gl p e below _ (T3.setTop (mkF m 37 #[.val (.int p1)] []))
        refine Gl.of (fun _ kq_ => XS.iconst X3.here hx rfl (hb hby d22_37) kq_) ?_
        show Gl p e below _ (T3.setTop (mkF m 38 #[.val (.int p1)] [(.int (1 : Int32))]))
        refine Gl.of (fun _ kq_ => XS.goto X3.here hx rfl (pc0 := 38) (pc' := 42) rfl (hb hby d22_38) (by decide) (by decide) kq_) ?_
        show Gl p e below _ (T3.setTop (mkF m 42 #[.val (.int p1)] [(.int (1 : Int32))]))
        exact Gl.retN X3 hx hlk hret (by simp) (hb hby d22_42) e3 (⟨by simp [own_pln, own_nb1, own_nb0, hc3_1, hc15_2, hc28_4], rfl, rfl⟩) (by decide) (by decide)
    · refine Gl.of (fun _ kq_ => XS.icmpNo X0.here hx rfl (hb hby d22_15) rfl (flt hc15_2).1 kq_) ?_
      show Gl p e below _ (s₁.setTop (mkF m 18 #[.val (.int p1)] []))
      refine Gl.of (fun _ kq_ => XS.iloadN X0.here hx rfl (hb hby d22_18) rfl kq_) ?_
      show Gl p e below _ (s₁.setTop (mkF m 19 #[.val (.int p1)] [(.int p1)]))
      refine Gl.of (fun _ kq_ => XS.bipush X0.here hx rfl (hb hby d22_19) kq_) ?_
      show Gl p e below _ (s₁.setTop (mkF m 21 #[.val (.int p1)] [(.int (90 : Int32)), (.int p1)]))
      by_cases hc21_6 : (90 : Int32) < p1
      · refine Gl.of (fun _ kq_ => XS.icmpNo X0.here hx rfl (hb hby d22_21) rfl (tlt hc21_6).2.2.2 kq_) ?_
        show Gl p e below _ (s₁.setTop (mkF m 24 #[.val (.int p1)] []))
        refine Gl.of (fun _ kq_ => XS.iloadN X0.here hx rfl (hb hby d22_24) rfl kq_) ?_
        show Gl p e below _ (s₁.setTop (mkF m 25 #[.val (.int p1)] [(.int p1)]))
        refine Gl.callS0 X0 hx hZ (y := (⟨"com/example/schenley/schenley/Identifier", "isDigit", "(C)Z"⟩ : MethodName)) hown (w97 hw) (w98 hw) (w43 hw) (w99 hw) (desc_ne (by decide)) (argsL := [(.int p1)]) (rest := []) (rmD l Z a0 hw _ p1) 0 (by decide) (by decide) e0 (pc := 25) (Ls := #[.val (.int p1)]) (st := [(.int p1)]) (by rw [hml]; rfl) pd_0 rfl rfl (Nat.le_of_eq rfl) (hb hby d22_25) (by decide) (by decide) ?_
        intro v7 T7 X7 e7 hv7
        subst hv7
        show Gl p e below _ (T7.setTop (mkF m 28 #[.val (.int p1)] [(.int (own_dig p1))]))
        by_cases hc28_8 : (own_dig p1) = (0 : Int32)
        · refine Gl.of (fun _ kq_ => XS.ifNo X7.here hx rfl (hb hby d22_28) rfl ((if0 _ _).trans (teq hc28_8).2) kq_) ?_
          show Gl p e below _ (T7.setTop (mkF m 31 #[.val (.int p1)] []))
          refine Gl.of (fun _ kq_ => XS.iloadN X7.here hx rfl (hb hby d22_31) rfl kq_) ?_
          show Gl p e below _ (T7.setTop (mkF m 32 #[.val (.int p1)] [(.int p1)]))
          refine Gl.of (fun _ kq_ => XS.bipush X7.here hx rfl (hb hby d22_32) kq_) ?_
          show Gl p e below _ (T7.setTop (mkF m 34 #[.val (.int p1)] [(.int (95 : Int32)), (.int p1)]))
          by_cases hc34_9 : p1 = (95 : Int32)
          · refine Gl.of (fun _ kq_ => XS.icmpNo X7.here hx rfl (hb hby d22_34) rfl (teq hc34_9).2 kq_) ?_
            show Gl p e below _ (T7.setTop (mkF m 37 #[.val (.int p1)] []))
            refine Gl.of (fun _ kq_ => XS.iconst X7.here hx rfl (hb hby d22_37) kq_) ?_
            show Gl p e below _ (T7.setTop (mkF m 38 #[.val (.int p1)] [(.int (1 : Int32))]))
            refine Gl.of (fun _ kq_ => XS.goto X7.here hx rfl (pc0 := 38) (pc' := 42) rfl (hb hby d22_38) (by decide) (by decide) kq_) ?_
            show Gl p e below _ (T7.setTop (mkF m 42 #[.val (.int p1)] [(.int (1 : Int32))]))
            exact Gl.retN X7 hx hlk hret (by simp) (hb hby d22_42) e7 (⟨by simp [own_pln, own_nb1, own_nb0, hc3_1, hc15_2, hc21_6, hc28_8, hc34_9], rfl, rfl⟩) (by decide) (by decide)
          · refine Gl.of (fun _ kq_ => XS.icmpYes X7.here hx rfl (pc0 := 34) (pc' := 41) rfl (hb hby d22_34) rfl (feq hc34_9).2 (by decide) (by decide) kq_) ?_
            show Gl p e below _ (T7.setTop (mkF m 41 #[.val (.int p1)] []))
            refine Gl.of (fun _ kq_ => XS.iconst X7.here hx rfl (hb hby d22_41) kq_) ?_
            show Gl p e below _ (T7.setTop (mkF m 42 #[.val (.int p1)] [(.int (0 : Int32))]))
            exact Gl.retN X7 hx hlk hret (by simp) (hb hby d22_42) e7 (⟨by simp [own_pln, own_nb1, own_nb0, hc3_1, hc15_2, hc21_6, hc28_8, hc34_9], rfl, rfl⟩) (by decide) (by decide)
        · refine Gl.of (fun _ kq_ => XS.ifYes X7.here hx rfl (pc0 := 28) (pc' := 37) rfl (hb hby d22_28) rfl ((if0 _ _).trans (feq hc28_8).2) (by decide) (by decide) kq_) ?_
          show Gl p e below _ (T7.setTop (mkF m 37 #[.val (.int p1)] []))
          refine Gl.of (fun _ kq_ => XS.iconst X7.here hx rfl (hb hby d22_37) kq_) ?_
          show Gl p e below _ (T7.setTop (mkF m 38 #[.val (.int p1)] [(.int (1 : Int32))]))
          refine Gl.of (fun _ kq_ => XS.goto X7.here hx rfl (pc0 := 38) (pc' := 42) rfl (hb hby d22_38) (by decide) (by decide) kq_) ?_
          show Gl p e below _ (T7.setTop (mkF m 42 #[.val (.int p1)] [(.int (1 : Int32))]))
          exact Gl.retN X7 hx hlk hret (by simp) (hb hby d22_42) e7 (⟨by simp [own_pln, own_nb1, own_nb0, hc3_1, hc15_2, hc21_6, hc28_8], rfl, rfl⟩) (by decide) (by decide)
      · refine Gl.of (fun _ kq_ => XS.icmpYes X0.here hx rfl (pc0 := 21) (pc' := 37) rfl (hb hby d22_21) rfl (flt hc21_6).2.2.2 (by decide) (by decide) kq_) ?_
        show Gl p e below _ (s₁.setTop (mkF m 37 #[.val (.int p1)] []))
        refine Gl.of (fun _ kq_ => XS.iconst X0.here hx rfl (hb hby d22_37) kq_) ?_
        show Gl p e below _ (s₁.setTop (mkF m 38 #[.val (.int p1)] [(.int (1 : Int32))]))
        refine Gl.of (fun _ kq_ => XS.goto X0.here hx rfl (pc0 := 38) (pc' := 42) rfl (hb hby d22_38) (by decide) (by decide) kq_) ?_
        show Gl p e below _ (s₁.setTop (mkF m 42 #[.val (.int p1)] [(.int (1 : Int32))]))
        exact Gl.retN X0 hx hlk hret (by simp) (hb hby d22_42) e0 (⟨by simp [own_pln, own_nb1, own_nb0, hc3_1, hc15_2, hc21_6], rfl, rfl⟩) (by decide) (by decide)
  · refine Gl.of (fun _ kq_ => XS.icmpNo X0.here hx rfl (hb hby d22_3) rfl (flt hc3_1).1 kq_) ?_
    show Gl p e below _ (s₁.setTop (mkF m 6 #[.val (.int p1)] []))
    refine Gl.of (fun _ kq_ => XS.iloadN X0.here hx rfl (hb hby d22_6) rfl kq_) ?_
    show Gl p e below _ (s₁.setTop (mkF m 7 #[.val (.int p1)] [(.int p1)]))
    refine Gl.of (fun _ kq_ => XS.bipush X0.here hx rfl (hb hby d22_7) kq_) ?_
    show Gl p e below _ (s₁.setTop (mkF m 9 #[.val (.int p1)] [(.int (122 : Int32)), (.int p1)]))
    by_cases hc9_10 : (122 : Int32) < p1
    · refine Gl.of (fun _ kq_ => XS.icmpNo X0.here hx rfl (hb hby d22_9) rfl (tlt hc9_10).2.2.2 kq_) ?_
      show Gl p e below _ (s₁.setTop (mkF m 12 #[.val (.int p1)] []))
      refine Gl.of (fun _ kq_ => XS.iloadN X0.here hx rfl (hb hby d22_12) rfl kq_) ?_
      show Gl p e below _ (s₁.setTop (mkF m 13 #[.val (.int p1)] [(.int p1)]))
      refine Gl.of (fun _ kq_ => XS.bipush X0.here hx rfl (hb hby d22_13) kq_) ?_
      show Gl p e below _ (s₁.setTop (mkF m 15 #[.val (.int p1)] [(.int (65 : Int32)), (.int p1)]))
      by_cases hc15_11 : p1 < (65 : Int32)
      · refine Gl.of (fun _ kq_ => XS.icmpYes X0.here hx rfl (pc0 := 15) (pc' := 24) rfl (hb hby d22_15) rfl (tlt hc15_11).1 (by decide) (by decide) kq_) ?_
        show Gl p e below _ (s₁.setTop (mkF m 24 #[.val (.int p1)] []))
        refine Gl.of (fun _ kq_ => XS.iloadN X0.here hx rfl (hb hby d22_24) rfl kq_) ?_
        show Gl p e below _ (s₁.setTop (mkF m 25 #[.val (.int p1)] [(.int p1)]))
        refine Gl.callS0 X0 hx hZ (y := (⟨"com/example/schenley/schenley/Identifier", "isDigit", "(C)Z"⟩ : MethodName)) hown (w97 hw) (w98 hw) (w43 hw) (w99 hw) (desc_ne (by decide)) (argsL := [(.int p1)]) (rest := []) (rmD l Z a0 hw _ p1) 0 (by decide) (by decide) e0 (pc := 25) (Ls := #[.val (.int p1)]) (st := [(.int p1)]) (by rw [hml]; rfl) pd_0 rfl rfl (Nat.le_of_eq rfl) (hb hby d22_25) (by decide) (by decide) ?_
        intro v12 T12 X12 e12 hv12
        subst hv12
        show Gl p e below _ (T12.setTop (mkF m 28 #[.val (.int p1)] [(.int (own_dig p1))]))
        by_cases hc28_13 : (own_dig p1) = (0 : Int32)
        · refine Gl.of (fun _ kq_ => XS.ifNo X12.here hx rfl (hb hby d22_28) rfl ((if0 _ _).trans (teq hc28_13).2) kq_) ?_
          show Gl p e below _ (T12.setTop (mkF m 31 #[.val (.int p1)] []))
          refine Gl.of (fun _ kq_ => XS.iloadN X12.here hx rfl (hb hby d22_31) rfl kq_) ?_
          show Gl p e below _ (T12.setTop (mkF m 32 #[.val (.int p1)] [(.int p1)]))
          refine Gl.of (fun _ kq_ => XS.bipush X12.here hx rfl (hb hby d22_32) kq_) ?_
          show Gl p e below _ (T12.setTop (mkF m 34 #[.val (.int p1)] [(.int (95 : Int32)), (.int p1)]))
          by_cases hc34_14 : p1 = (95 : Int32)
          · refine Gl.of (fun _ kq_ => XS.icmpNo X12.here hx rfl (hb hby d22_34) rfl (teq hc34_14).2 kq_) ?_
            show Gl p e below _ (T12.setTop (mkF m 37 #[.val (.int p1)] []))
            refine Gl.of (fun _ kq_ => XS.iconst X12.here hx rfl (hb hby d22_37) kq_) ?_
            show Gl p e below _ (T12.setTop (mkF m 38 #[.val (.int p1)] [(.int (1 : Int32))]))
            refine Gl.of (fun _ kq_ => XS.goto X12.here hx rfl (pc0 := 38) (pc' := 42) rfl (hb hby d22_38) (by decide) (by decide) kq_) ?_
            show Gl p e below _ (T12.setTop (mkF m 42 #[.val (.int p1)] [(.int (1 : Int32))]))
            exact Gl.retN X12 hx hlk hret (by simp) (hb hby d22_42) e12 (⟨by simp [own_pln, own_nb1, own_nb0, hc3_1, hc9_10, hc15_11, hc28_13, hc34_14], rfl, rfl⟩) (by decide) (by decide)
          · refine Gl.of (fun _ kq_ => XS.icmpYes X12.here hx rfl (pc0 := 34) (pc' := 41) rfl (hb hby d22_34) rfl (feq hc34_14).2 (by decide) (by decide) kq_) ?_
            show Gl p e below _ (T12.setTop (mkF m 41 #[.val (.int p1)] []))
            refine Gl.of (fun _ kq_ => XS.iconst X12.here hx rfl (hb hby d22_41) kq_) ?_
            show Gl p e below _ (T12.setTop (mkF m 42 #[.val (.int p1)] [(.int (0 : Int32))]))
            exact Gl.retN X12 hx hlk hret (by simp) (hb hby d22_42) e12 (⟨by simp [own_pln, own_nb1, own_nb0, hc3_1, hc9_10, hc15_11, hc28_13, hc34_14], rfl, rfl⟩) (by decide) (by decide)
        · refine Gl.of (fun _ kq_ => XS.ifYes X12.here hx rfl (pc0 := 28) (pc' := 37) rfl (hb hby d22_28) rfl ((if0 _ _).trans (feq hc28_13).2) (by decide) (by decide) kq_) ?_
          show Gl p e below _ (T12.setTop (mkF m 37 #[.val (.int p1)] []))
          refine Gl.of (fun _ kq_ => XS.iconst X12.here hx rfl (hb hby d22_37) kq_) ?_
          show Gl p e below _ (T12.setTop (mkF m 38 #[.val (.int p1)] [(.int (1 : Int32))]))
          refine Gl.of (fun _ kq_ => XS.goto X12.here hx rfl (pc0 := 38) (pc' := 42) rfl (hb hby d22_38) (by decide) (by decide) kq_) ?_
          show Gl p e below _ (T12.setTop (mkF m 42 #[.val (.int p1)] [(.int (1 : Int32))]))
          exact Gl.retN X12 hx hlk hret (by simp) (hb hby d22_42) e12 (⟨by simp [own_pln, own_nb1, own_nb0, hc3_1, hc9_10, hc15_11, hc28_13], rfl, rfl⟩) (by decide) (by decide)
      · refine Gl.of (fun _ kq_ => XS.icmpNo X0.here hx rfl (hb hby d22_15) rfl (flt hc15_11).1 kq_) ?_
        show Gl p e below _ (s₁.setTop (mkF m 18 #[.val (.int p1)] []))
        refine Gl.of (fun _ kq_ => XS.iloadN X0.here hx rfl (hb hby d22_18) rfl kq_) ?_
        show Gl p e below _ (s₁.setTop (mkF m 19 #[.val (.int p1)] [(.int p1)]))
        refine Gl.of (fun _ kq_ => XS.bipush X0.here hx rfl (hb hby d22_19) kq_) ?_
        show Gl p e below _ (s₁.setTop (mkF m 21 #[.val (.int p1)] [(.int (90 : Int32)), (.int p1)]))
        by_cases hc21_15 : (90 : Int32) < p1
        · refine Gl.of (fun _ kq_ => XS.icmpNo X0.here hx rfl (hb hby d22_21) rfl (tlt hc21_15).2.2.2 kq_) ?_
          show Gl p e below _ (s₁.setTop (mkF m 24 #[.val (.int p1)] []))
          refine Gl.of (fun _ kq_ => XS.iloadN X0.here hx rfl (hb hby d22_24) rfl kq_) ?_
          show Gl p e below _ (s₁.setTop (mkF m 25 #[.val (.int p1)] [(.int p1)]))
          refine Gl.callS0 X0 hx hZ (y := (⟨"com/example/schenley/schenley/Identifier", "isDigit", "(C)Z"⟩ : MethodName)) hown (w97 hw) (w98 hw) (w43 hw) (w99 hw) (desc_ne (by decide)) (argsL := [(.int p1)]) (rest := []) (rmD l Z a0 hw _ p1) 0 (by decide) (by decide) e0 (pc := 25) (Ls := #[.val (.int p1)]) (st := [(.int p1)]) (by rw [hml]; rfl) pd_0 rfl rfl (Nat.le_of_eq rfl) (hb hby d22_25) (by decide) (by decide) ?_
          intro v16 T16 X16 e16 hv16
          subst hv16
          show Gl p e below _ (T16.setTop (mkF m 28 #[.val (.int p1)] [(.int (own_dig p1))]))
          by_cases hc28_17 : (own_dig p1) = (0 : Int32)
          · refine Gl.of (fun _ kq_ => XS.ifNo X16.here hx rfl (hb hby d22_28) rfl ((if0 _ _).trans (teq hc28_17).2) kq_) ?_
            show Gl p e below _ (T16.setTop (mkF m 31 #[.val (.int p1)] []))
            refine Gl.of (fun _ kq_ => XS.iloadN X16.here hx rfl (hb hby d22_31) rfl kq_) ?_
            show Gl p e below _ (T16.setTop (mkF m 32 #[.val (.int p1)] [(.int p1)]))
            refine Gl.of (fun _ kq_ => XS.bipush X16.here hx rfl (hb hby d22_32) kq_) ?_
            show Gl p e below _ (T16.setTop (mkF m 34 #[.val (.int p1)] [(.int (95 : Int32)), (.int p1)]))
            by_cases hc34_18 : p1 = (95 : Int32)
            · refine Gl.of (fun _ kq_ => XS.icmpNo X16.here hx rfl (hb hby d22_34) rfl (teq hc34_18).2 kq_) ?_
              show Gl p e below _ (T16.setTop (mkF m 37 #[.val (.int p1)] []))
              refine Gl.of (fun _ kq_ => XS.iconst X16.here hx rfl (hb hby d22_37) kq_) ?_
              show Gl p e below _ (T16.setTop (mkF m 38 #[.val (.int p1)] [(.int (1 : Int32))]))
              refine Gl.of (fun _ kq_ => XS.goto X16.here hx rfl (pc0 := 38) (pc' := 42) rfl (hb hby d22_38) (by decide) (by decide) kq_) ?_
              show Gl p e below _ (T16.setTop (mkF m 42 #[.val (.int p1)] [(.int (1 : Int32))]))
              exact Gl.retN X16 hx hlk hret (by simp) (hb hby d22_42) e16 (⟨by simp [own_pln, own_nb1, own_nb0, hc3_1, hc9_10, hc15_11, hc21_15, hc28_17, hc34_18], rfl, rfl⟩) (by decide) (by decide)
            · refine Gl.of (fun _ kq_ => XS.icmpYes X16.here hx rfl (pc0 := 34) (pc' := 41) rfl (hb hby d22_34) rfl (feq hc34_18).2 (by decide) (by decide) kq_) ?_
              show Gl p e below _ (T16.setTop (mkF m 41 #[.val (.int p1)] []))
              refine Gl.of (fun _ kq_ => XS.iconst X16.here hx rfl (hb hby d22_41) kq_) ?_
              show Gl p e below _ (T16.setTop (mkF m 42 #[.val (.int p1)] [(.int (0 : Int32))]))
              exact Gl.retN X16 hx hlk hret (by simp) (hb hby d22_42) e16 (⟨by simp [own_pln, own_nb1, own_nb0, hc3_1, hc9_10, hc15_11, hc21_15, hc28_17, hc34_18], rfl, rfl⟩) (by decide) (by decide)
          · refine Gl.of (fun _ kq_ => XS.ifYes X16.here hx rfl (pc0 := 28) (pc' := 37) rfl (hb hby d22_28) rfl ((if0 _ _).trans (feq hc28_17).2) (by decide) (by decide) kq_) ?_
            show Gl p e below _ (T16.setTop (mkF m 37 #[.val (.int p1)] []))
            refine Gl.of (fun _ kq_ => XS.iconst X16.here hx rfl (hb hby d22_37) kq_) ?_
            show Gl p e below _ (T16.setTop (mkF m 38 #[.val (.int p1)] [(.int (1 : Int32))]))
            refine Gl.of (fun _ kq_ => XS.goto X16.here hx rfl (pc0 := 38) (pc' := 42) rfl (hb hby d22_38) (by decide) (by decide) kq_) ?_
            show Gl p e below _ (T16.setTop (mkF m 42 #[.val (.int p1)] [(.int (1 : Int32))]))
            exact Gl.retN X16 hx hlk hret (by simp) (hb hby d22_42) e16 (⟨by simp [own_pln, own_nb1, own_nb0, hc3_1, hc9_10, hc15_11, hc21_15, hc28_17], rfl, rfl⟩) (by decide) (by decide)
        · refine Gl.of (fun _ kq_ => XS.icmpYes X0.here hx rfl (pc0 := 21) (pc' := 37) rfl (hb hby d22_21) rfl (flt hc21_15).2.2.2 (by decide) (by decide) kq_) ?_
          show Gl p e below _ (s₁.setTop (mkF m 37 #[.val (.int p1)] []))
          refine Gl.of (fun _ kq_ => XS.iconst X0.here hx rfl (hb hby d22_37) kq_) ?_
          show Gl p e below _ (s₁.setTop (mkF m 38 #[.val (.int p1)] [(.int (1 : Int32))]))
          refine Gl.of (fun _ kq_ => XS.goto X0.here hx rfl (pc0 := 38) (pc' := 42) rfl (hb hby d22_38) (by decide) (by decide) kq_) ?_
          show Gl p e below _ (s₁.setTop (mkF m 42 #[.val (.int p1)] [(.int (1 : Int32))]))
          exact Gl.retN X0 hx hlk hret (by simp) (hb hby d22_42) e0 (⟨by simp [own_pln, own_nb1, own_nb0, hc3_1, hc9_10, hc15_11, hc21_15], rfl, rfl⟩) (by decide) (by decide)
    · refine Gl.of (fun _ kq_ => XS.icmpYes X0.here hx rfl (pc0 := 9) (pc' := 37) rfl (hb hby d22_9) rfl (flt hc9_10).2.2.2 (by decide) (by decide) kq_) ?_
      show Gl p e below _ (s₁.setTop (mkF m 37 #[.val (.int p1)] []))
      refine Gl.of (fun _ kq_ => XS.iconst X0.here hx rfl (hb hby d22_37) kq_) ?_
      show Gl p e below _ (s₁.setTop (mkF m 38 #[.val (.int p1)] [(.int (1 : Int32))]))
      refine Gl.of (fun _ kq_ => XS.goto X0.here hx rfl (pc0 := 38) (pc' := 42) rfl (hb hby d22_38) (by decide) (by decide) kq_) ?_
      show Gl p e below _ (s₁.setTop (mkF m 42 #[.val (.int p1)] [(.int (1 : Int32))]))
      exact Gl.retN X0 hx hlk hret (by simp) (hb hby d22_42) e0 (⟨by simp [own_pln, own_nb1, own_nb0, hc3_1, hc9_10], rfl, rfl⟩) (by decide) (by decide)
theorem ef_5 (m : MethodId) (x0 : Addr) : entryFrame m #[(.ref x0)] 1 = mkF m 0 #[.val (.ref x0)] [] := by first | (simp [entryFrame, mkF, argsToLocals, Value.category, maxLocals]; done) | rfl
theorem pn_2 : plainName "java/lang/Record" = true := by first | (simp [plainName, overriddenIn]; done) | decide +kernel
theorem d11_0 : decode jdk_30_method_1_code 0 = .ok (.aload_n 0, 1) := by decide +kernel
theorem d11_1 : decode jdk_30_method_1_code 1 = .ok (.invokespecial 1, 3) := by decide +kernel
theorem w52 {Z : State} {a0 : Array Value} (hw : ∀ d ∈ tables_1, d.before a0 Z = true) : (Jvm.Cond.methodLink "java/lang/Record" (1 : Nat) ({ cls := "java/lang/Object", name := "<init>", desc := "()V" } : Jvm.MethodName)).before a0 Z = true := hw _ (List.mem_of_getElem? (i := 52) rfl)
theorem w23 {Z : State} {a0 : Array Value} (hw : ∀ d ∈ tables_1, d.before a0 Z = true) : (Jvm.Cond.instanceMethod ({ cls := "java/lang/Object", name := "<init>", desc := "()V" } : Jvm.MethodName)).before a0 Z = true := hw _ (List.mem_of_getElem? (i := 23) rfl)
theorem w24 {Z : State} {a0 : Array Value} (hw : ∀ d ∈ tables_1, d.before a0 Z = true) : (Jvm.Cond.code ({ cls := "java/lang/Object", name := "<init>", desc := "()V" } : Jvm.MethodName) object_method_1_code (1 : Nat) (Option.none : Option Jvm.ClassFile.FieldType)).before a0 Z = true := hw _ (List.mem_of_getElem? (i := 24) rfl)
theorem d11_4 : decode jdk_30_method_1_code 4 = .ok (.return_, 1) := by decide +kernel
set_option maxRecDepth 65536 in
set_option maxHeartbeats 40000000 in
theorem rmR (l : Launch) (Z : State) (a0 : Array Value) (hw : ∀ d ∈ tables_1, d.before a0 Z = true) (h0 : Heap) (a1 : Addr) : Con l Z (⟨"java/lang/Record", "<init>", "()V"⟩ : MethodName) jdk_30_method_1_code 1 none [] ({ frames := 1, cells := 0, slots := 0, locals := 12 } : Room) 0 0 #[(.ref a1)] h0 (Pur (fun v => v = none) h0) := by
  refine Con.intro (plainFor_of_name pn_2) ?_
  intro p e s m below meth c s₁ X0 hx hby hml hZ hown hnm hret hlk e0 hs0
  refine Gl.of (fun _ kq_ => castTop (ef_5 m a1) kq_) ?_
  show Gl p e below _ (s₁.setTop (mkF m 0 #[.val (.ref a1)] []))
  refine Gl.of (fun _ kq_ => XS.aloadN X0.here hx rfl (hb hby d11_0) rfl rfl kq_) ?_
  show Gl p e below _ (s₁.setTop (mkF m 1 #[.val (.ref a1)] [(.ref a1)]))
  obtain ⟨T1, X1, e1, st1⟩ := initO X0 hx hZ hown (w52 hw) (w23 hw) (w24 hw) e0 (g := (mkF m 1 #[.val (.ref a1)] [(.ref a1)])) rfl (by rw [hml]; rfl) rfl (hb hby d11_1) (by decide) (W := 0) (by show 2 * 0 + _ ≤ _; exact Nat.le_of_eq rfl) (by decide)
  refine Gl.of st1 ?_
  show Gl p e below _ (T1.setTop (mkF m 4 #[.val (.ref a1)] []))
  exact Gl.ret0 X1 hx hlk hret (hb hby d11_4) e1 (⟨rfl, rfl, rfl⟩) (by decide) (by decide)
theorem ef_6 (m : MethodId) (x0 : Addr) (x1 : Addr) : entryFrame m #[(.ref x0), (.ref x1)] 2 = mkF m 0 #[.val (.ref x0), .val (.ref x1)] [] := by first | (simp [entryFrame, mkF, argsToLocals, Value.category, maxLocals]; done) | rfl
theorem pn_3 : plainName "java/util/Objects" = true := by first | (simp [plainName, overriddenIn]; done) | decide +kernel
theorem d12_0 : decode jdk_31_method_11_code 0 = .ok (.aload_n 0, 1) := by decide +kernel
theorem d12_1 : decode jdk_31_method_11_code 1 = .ok (.ifnonnull 12, 3) := by decide +kernel
theorem d12_13 : decode jdk_31_method_11_code 13 = .ok (.aload_n 0, 1) := by decide +kernel
theorem d12_14 : decode jdk_31_method_11_code 14 = .ok (.areturn, 1) := by decide +kernel
set_option maxRecDepth 65536 in
set_option maxHeartbeats 40000000 in
theorem rmN (l : Launch) (Z : State) (a0 : Array Value) (hw : ∀ d ∈ tables_1, d.before a0 Z = true) (h0 : Heap) (a1 a2 : Addr) : Con l Z (⟨"java/util/Objects", "requireNonNull", "(Ljava/lang/Object;Ljava/lang/String;)Ljava/lang/Object;"⟩ : MethodName) jdk_31_method_11_code 2 (some (.object "java/lang/Object")) [] ({ frames := 0, cells := 0, slots := 0, locals := 0 } : Room) 0 0 #[(.ref a1), (.ref a2)] h0 (Pur (fun v => v = some (.ref a1)) h0) := by
  refine Con.intro (plainFor_of_name pn_3) ?_
  intro p e s m below meth c s₁ X0 hx hby hml hZ hown hnm hret hlk e0 hs0
  refine Gl.of (fun _ kq_ => castTop (ef_6 m a1 a2) kq_) ?_
  show Gl p e below _ (s₁.setTop (mkF m 0 #[.val (.ref a1), .val (.ref a2)] []))
  refine Gl.of (fun _ kq_ => XS.aloadN X0.here hx rfl (hb hby d12_0) rfl rfl kq_) ?_
  show Gl p e below _ (s₁.setTop (mkF m 1 #[.val (.ref a1), .val (.ref a2)] [(.ref a1)]))
  refine Gl.of (fun _ kq_ => XS.ifnonnullYes X0.here hx rfl (pc0 := 1) (pc' := 13) rfl (hb hby d12_1) rfl (by decide) (by decide) kq_) ?_
  show Gl p e below _ (s₁.setTop (mkF m 13 #[.val (.ref a1), .val (.ref a2)] []))
  refine Gl.of (fun _ kq_ => XS.aloadN X0.here hx rfl (hb hby d12_13) rfl rfl kq_) ?_
  show Gl p e below _ (s₁.setTop (mkF m 14 #[.val (.ref a1), .val (.ref a2)] [(.ref a1)]))
  exact Gl.retR X0 hx hlk hret rfl rfl (hb hby d12_14) e0 (⟨rfl, rfl, rfl⟩) (by decide) (by decide)
theorem ef_7 (m : MethodId) (x0 : Int32) (x1 : Int32) (x2 : Int32) (x3 : Int32) : entryFrame m #[(.int x0), (.int x1), (.int x2), (.int x3)] 4 = mkF m 0 #[.val (.int x0), .val (.int x1), .val (.int x2), .val (.int x3)] [] := by first | (simp [entryFrame, mkF, argsToLocals, Value.category, maxLocals]; done) | rfl
theorem d3_0 : decode method_4_code 0 = .ok (.iload_n 0, 1) := by decide +kernel
theorem d3_1 : decode method_4_code 1 = .ok (.iconst 1, 1) := by decide +kernel
theorem d3_2 : decode method_4_code 2 = .ok (.if_icmp .ne 18, 3) := by decide +kernel
theorem d3_5 : decode method_4_code 5 = .ok (.new 8, 3) := by decide +kernel
theorem w11 {Z : State} {a0 : Array Value} (hw : ∀ d ∈ tables_1, d.before a0 Z = true) : (Jvm.Cond.classLink "com/example/schenley/schenley/IdentifierEqualsPinLaw" (8 : Nat) "java/lang/String").before a0 Z = true := hw _ (List.mem_of_getElem? (i := 11) rfl)
theorem w12 {Z : State} {a0 : Array Value} (hw : ∀ d ∈ tables_1, d.before a0 Z = true) : (Jvm.Cond.instantiable "java/lang/String" (4 : Nat)).before a0 Z = true := hw _ (List.mem_of_getElem? (i := 12) rfl)
theorem w13 {Z : State} {a0 : Array Value} (hw : ∀ d ∈ tables_1, d.before a0 Z = true) : (Jvm.Cond.initialized "java/lang/String").before a0 Z = true := hw _ (List.mem_of_getElem? (i := 13) rfl)
theorem w38 {Z : State} {a0 : Array Value} (hw : ∀ d ∈ tables_1, d.before a0 Z = true) : (Jvm.Cond.laysFinal "java/lang/String" "java/lang/String" "coder" "B").before a0 Z = true := hw _ (List.mem_of_getElem? (i := 38) rfl)
theorem w40 {Z : State} {a0 : Array Value} (hw : ∀ d ∈ tables_1, d.before a0 Z = true) : (Jvm.Cond.laysFinal "java/lang/String" "java/lang/String" "value" "[B").before a0 Z = true := hw _ (List.mem_of_getElem? (i := 40) rfl)
theorem d3_8 : decode method_4_code 8 = .ok (.dup, 1) := by decide +kernel
theorem d3_9 : decode method_4_code 9 = .ok (.iconst 1, 1) := by decide +kernel
theorem d3_10 : decode method_4_code 10 = .ok (.newarray .char, 2) := by decide +kernel
theorem w14 {Z : State} {a0 : Array Value} (hw : ∀ d ∈ tables_1, d.before a0 Z = true) : (Jvm.Cond.arrayClass Jvm.ClassFile.FieldType.char).before a0 Z = true := hw _ (List.mem_of_getElem? (i := 14) rfl)
theorem d3_12 : decode method_4_code 12 = .ok (.dup, 1) := by decide +kernel
theorem d3_13 : decode method_4_code 13 = .ok (.iconst 0, 1) := by decide +kernel
theorem d3_14 : decode method_4_code 14 = .ok (.iload_n 1, 1) := by decide +kernel
theorem d3_15 : decode method_4_code 15 = .ok (.castore, 1) := by decide +kernel
theorem d3_16 : decode method_4_code 16 = .ok (.invokespecial 10, 3) := by decide +kernel
theorem w15 {Z : State} {a0 : Array Value} (hw : ∀ d ∈ tables_1, d.before a0 Z = true) : (Jvm.Cond.methodLink "com/example/schenley/schenley/IdentifierEqualsPinLaw" (10 : Nat) ({ cls := "java/lang/String", name := "<init>", desc := "([C)V" } : Jvm.MethodName)).before a0 Z = true := hw _ (List.mem_of_getElem? (i := 15) rfl)
theorem w16 {Z : State} {a0 : Array Value} (hw : ∀ d ∈ tables_1, d.before a0 Z = true) : (Jvm.Cond.instanceMethod ({ cls := "java/lang/String", name := "<init>", desc := "([C)V" } : Jvm.MethodName)).before a0 Z = true := hw _ (List.mem_of_getElem? (i := 16) rfl)
theorem w17 {Z : State} {a0 : Array Value} (hw : ∀ d ∈ tables_1, d.before a0 Z = true) : (Jvm.Cond.code ({ cls := "java/lang/String", name := "<init>", desc := "([C)V" } : Jvm.MethodName) jdk_42_method_3_code (2 : Nat) (Option.none : Option Jvm.ClassFile.FieldType)).before a0 Z = true := hw _ (List.mem_of_getElem? (i := 17) rfl)
theorem pd_1 : parseMethodDescriptor "([C)V" = some ⟨[(.array .char)], none⟩ := by decide +kernel
theorem d3_19 : decode method_4_code 19 = .ok (.areturn, 1) := by decide +kernel
theorem d3_20 : decode method_4_code 20 = .ok (.iload_n 0, 1) := by decide +kernel
theorem d3_21 : decode method_4_code 21 = .ok (.iconst 2, 1) := by decide +kernel
theorem d3_22 : decode method_4_code 22 = .ok (.if_icmp .ne 22, 3) := by decide +kernel
theorem d3_25 : decode method_4_code 25 = .ok (.new 8, 3) := by decide +kernel
theorem d3_28 : decode method_4_code 28 = .ok (.dup, 1) := by decide +kernel
theorem d3_29 : decode method_4_code 29 = .ok (.iconst 2, 1) := by decide +kernel
theorem d3_30 : decode method_4_code 30 = .ok (.newarray .char, 2) := by decide +kernel
theorem d3_32 : decode method_4_code 32 = .ok (.dup, 1) := by decide +kernel
theorem d3_33 : decode method_4_code 33 = .ok (.iconst 0, 1) := by decide +kernel
theorem d3_34 : decode method_4_code 34 = .ok (.iload_n 1, 1) := by decide +kernel
theorem d3_35 : decode method_4_code 35 = .ok (.castore, 1) := by decide +kernel
theorem d3_36 : decode method_4_code 36 = .ok (.dup, 1) := by decide +kernel
theorem d3_37 : decode method_4_code 37 = .ok (.iconst 1, 1) := by decide +kernel
theorem d3_38 : decode method_4_code 38 = .ok (.iload_n 2, 1) := by decide +kernel
theorem d3_39 : decode method_4_code 39 = .ok (.castore, 1) := by decide +kernel
theorem d3_40 : decode method_4_code 40 = .ok (.invokespecial 10, 3) := by decide +kernel
theorem d3_43 : decode method_4_code 43 = .ok (.areturn, 1) := by decide +kernel
theorem d3_44 : decode method_4_code 44 = .ok (.new 8, 3) := by decide +kernel
theorem d3_47 : decode method_4_code 47 = .ok (.dup, 1) := by decide +kernel
theorem d3_48 : decode method_4_code 48 = .ok (.iconst 3, 1) := by decide +kernel
theorem d3_49 : decode method_4_code 49 = .ok (.newarray .char, 2) := by decide +kernel
theorem d3_51 : decode method_4_code 51 = .ok (.dup, 1) := by decide +kernel
theorem d3_52 : decode method_4_code 52 = .ok (.iconst 0, 1) := by decide +kernel
theorem d3_53 : decode method_4_code 53 = .ok (.iload_n 1, 1) := by decide +kernel
theorem d3_54 : decode method_4_code 54 = .ok (.castore, 1) := by decide +kernel
theorem d3_55 : decode method_4_code 55 = .ok (.dup, 1) := by decide +kernel
theorem d3_56 : decode method_4_code 56 = .ok (.iconst 1, 1) := by decide +kernel
theorem d3_57 : decode method_4_code 57 = .ok (.iload_n 2, 1) := by decide +kernel
theorem d3_58 : decode method_4_code 58 = .ok (.castore, 1) := by decide +kernel
theorem d3_59 : decode method_4_code 59 = .ok (.dup, 1) := by decide +kernel
theorem d3_60 : decode method_4_code 60 = .ok (.iconst 2, 1) := by decide +kernel
theorem d3_61 : decode method_4_code 61 = .ok (.iload_n 3, 1) := by decide +kernel
theorem d3_62 : decode method_4_code 62 = .ok (.castore, 1) := by decide +kernel
theorem d3_63 : decode method_4_code 63 = .ok (.invokespecial 10, 3) := by decide +kernel
theorem d3_66 : decode method_4_code 66 = .ok (.areturn, 1) := by decide +kernel
set_option maxRecDepth 65536 in
set_option maxHeartbeats 40000000 in
theorem rm3 (l : Launch) (Z : State) (a0 : Array Value) (hw : ∀ d ∈ tables_1, d.before a0 Z = true) (h0 : Heap) (p1 c0 c1 c2 : Int32) (cz : Int32) (n0 : Nat) (hc0 : own_any c0) (hc1 : own_any c1) (hc2 : own_any c2) (SC : Sta Z Z.heap "java/lang/String" "COMPACT_STRINGS" "Z" (.int cz)) (hcz : ¬ cz = 0) (O0 : Old Z n0 h0) : Con l Z (⟨"com/example/schenley/schenley/IdentifierEqualsPinLaw", "spell", "(ICCC)Ljava/lang/String;"⟩ : MethodName) method_4_code 4 (some (.object "java/lang/String")) [] ({ frames := 4, cells := 3, slots := 10, locals := 66 } : Room) 3 10 #[(.int p1), (.int c0), (.int c1), (.int c2)] h0 (fun v h L => ∃ x t kb, v = some (.ref x) ∧ Strg Z h x t kb (own_sp p1 c0 c1 c2) ∧ Keep h0 h [] ∧ Fr n0 L ∧ n0 ≤ x ∧ n0 ≤ t ∧ h0.size ≤ x ∧ h0.size ≤ t) := by
  refine Con.intro (plainFor_of_name pn_0) ?_
  intro p e s m below meth c s₁ X0 hx hby hml hZ hown hnm hret hlk e0 hs0
  refine Gl.of (fun _ kq_ => castTop (ef_7 m p1 c0 c1 c2) kq_) ?_
  have K0 := Keep.refl h0 []
  show Gl p e below _ (s₁.setTop (mkF m 0 #[.val (.int p1), .val (.int c0), .val (.int c1), .val (.int c2)] []))
  refine Gl.of (fun _ kq_ => XS.iloadN X0.here hx rfl (hb hby d3_0) rfl kq_) ?_
  show Gl p e below _ (s₁.setTop (mkF m 1 #[.val (.int p1), .val (.int c0), .val (.int c1), .val (.int c2)] [(.int p1)]))
  refine Gl.of (fun _ kq_ => XS.iconst X0.here hx rfl (hb hby d3_1) kq_) ?_
  show Gl p e below _ (s₁.setTop (mkF m 2 #[.val (.int p1), .val (.int c0), .val (.int c1), .val (.int c2)] [(.int (1 : Int32)), (.int p1)]))
  by_cases hc2_1 : p1 = (1 : Int32)
  · refine Gl.of (fun _ kq_ => XS.icmpNo X0.here hx rfl (hb hby d3_2) rfl (teq hc2_1).2 kq_) ?_
    show Gl p e below _ (s₁.setTop (mkF m 5 #[.val (.int p1), .val (.int c0), .val (.int c1), .val (.int c2)] []))
    obtain ⟨T2, h2, X2, e2, E2, A2, D2, -, st2⟩ := newO X0 hx hZ hown (w11 hw) (w12 hw) (w13 hw) e0 (g := (mkF m 5 #[.val (.int p1), .val (.int c0), .val (.int c1), .val (.int c2)] [])) rfl (hb hby d3_5) (by decide) (by decide)
    obtain ⟨b2, g2⟩ : ∃ z, z = h0.size := ⟨_, rfl⟩
    rw [← g2] at A2 D2 st2
    refine Gl.of st2 ?_
    have Gb2 : n0 ≤ b2 := Nat.le_trans (O0.1 ▸ O0.2.1) (Nat.le_of_eq g2.symm)
    have Jb2 : h0.size ≤ b2 := Nat.le_trans K0.1 (Nat.le_of_eq g2.symm)
    have O2 := O0.ext E2
    have K2 := K0.ext E2
    have F2_coder : Fld Z h2 b2 "java/lang/String" "coder" "B" (.int (0 : Int32)) := D2 (Or.inr (w38 hw)) (ty := .byte) (by decide)
    have F2_value : Fld Z h2 b2 "java/lang/String" "value" "[B" .null := D2 (Or.inr (w40 hw)) (ty := (.array .byte)) (by decide)
    show Gl p e below _ (T2.setTop (mkF m 8 #[.val (.int p1), .val (.int c0), .val (.int c1), .val (.int c2)] [(.ref b2)]))
    refine Gl.of (fun _ kq_ => XS.dup X2.here hx rfl (hb hby d3_8) rfl rfl kq_) ?_
    show Gl p e below _ (T2.setTop (mkF m 9 #[.val (.int p1), .val (.int c0), .val (.int c1), .val (.int c2)] [(.ref b2), (.ref b2)]))
    refine Gl.of (fun _ kq_ => XS.iconst X2.here hx rfl (hb hby d3_9) kq_) ?_
    show Gl p e below _ (T2.setTop (mkF m 10 #[.val (.int p1), .val (.int c0), .val (.int c1), .val (.int c2)] [(.int (1 : Int32)), (.ref b2), (.ref b2)]))
    obtain ⟨T3, h3, k3, X3, e3, E3, A3, st3⟩ := newP (aty := .char) X2 hx hZ (w14 hw) e2 (g := (mkF m 10 #[.val (.int p1), .val (.int c0), .val (.int c1), .val (.int c2)] [(.int (1 : Int32)), (.ref b2), (.ref b2)])) rfl (hb hby d3_10) rfl (by decide) (cap := 1) (by decide) (by decide) (by decide) (by decide)
    obtain ⟨b3, g3⟩ : ∃ z, z = h2.size := ⟨_, rfl⟩
    rw [← g3] at A3 st3
    refine Gl.of st3 ?_
    have Gb3 : n0 ≤ b3 := Nat.le_trans (O2.1 ▸ O2.2.1) (Nat.le_of_eq g3.symm)
    have Jb3 : h0.size ≤ b3 := Nat.le_trans K2.1 (Nat.le_of_eq g3.symm)
    have ne_b2_b3 : b2 ≠ b3 := Nat.ne_of_lt (Nat.lt_of_lt_of_le A2.lt (Nat.le_of_eq g3.symm))
    have ec4 := A2.ext E3
    have fc5 := F2_coder.ext E3
    have fc6 := F2_value.ext E3
    have O3 := O2.ext E3
    have K3 := K2.ext E3
    have V3 : Arv Z h3 b3 k3 .char (1 : Int32) [(.int (0 : Int32))] (.int (0 : Int32)) := (Arv.new A3 (by decide)).pad (pad_rep [] (.int (0 : Int32)) 1)
    show Gl p e below _ (T3.setTop (mkF m 12 #[.val (.int p1), .val (.int c0), .val (.int c1), .val (.int c2)] [(.ref b3), (.ref b2), (.ref b2)]))
    refine Gl.of (fun _ kq_ => XS.dup X3.here hx rfl (hb hby d3_12) rfl rfl kq_) ?_
    show Gl p e below _ (T3.setTop (mkF m 13 #[.val (.int p1), .val (.int c0), .val (.int c1), .val (.int c2)] [(.ref b3), (.ref b3), (.ref b2), (.ref b2)]))
    refine Gl.of (fun _ kq_ => XS.iconst X3.here hx rfl (hb hby d3_13) kq_) ?_
    show Gl p e below _ (T3.setTop (mkF m 14 #[.val (.int p1), .val (.int c0), .val (.int c1), .val (.int c2)] [(.int (0 : Int32)), (.ref b3), (.ref b3), (.ref b2), (.ref b2)]))
    refine Gl.of (fun _ kq_ => XS.iloadN X3.here hx rfl (hb hby d3_14) rfl kq_) ?_
    show Gl p e below _ (T3.setTop (mkF m 15 #[.val (.int p1), .val (.int c0), .val (.int c1), .val (.int c2)] [(.int c0), (.int (0 : Int32)), (.ref b3), (.ref b3), (.ref b2), (.ref b2)]))
    obtain ⟨zcl7, zAr7, zq7, zS7, zM7, zH7, zG7⟩ := id V3
    obtain ⟨T8, h8, X8, e8, W8, st8⟩ := stC X3 hx hZ e3 zAr7 (j := (0 : Int32)) (inb_of zS7 ⟨by decide, by decide⟩) (g := (mkF m 15 #[.val (.int p1), .val (.int c0), .val (.int c1), .val (.int c2)] [(.int c0), (.int (0 : Int32)), (.ref b3), (.ref b3), (.ref b2), (.ref b2)])) rfl rfl (hb hby d3_15)
    refine Gl.of st8 ?_
    have V8 : Arv Z h8 b3 k3 .char (1 : Int32) [(.int (nar .char c0))] (.int (0 : Int32)) := Arv.set zAr7 zq7 zS7 zM7 zH7 zG7 (fits_nar_char _) W8 0 rfl (Nat.le_of_ble_eq_true rfl)
    have ec9 := ec4.wr W8
    have fc10 := fc5.other W8 (Or.inl ne_b2_b3)
    have fc11 := fc6.other W8 (Or.inl ne_b2_b3)
    have N8 := Fr.snoc X8 (Fr.nil n0) Gb3
    have O8 := O3.wr W8 Gb3
    have K8 := K3.wr W8 (Or.inr Jb3)
    show Gl p e below _ (T8.setTop (mkF m 16 #[.val (.int p1), .val (.int c0), .val (.int c1), .val (.int c2)] [(.ref b3), (.ref b2), (.ref b2)]))
    have hp12 : ∀ c ∈ ([(nar .char c0)] : List Int32), ¬ c < 0 ∧ ¬ (255 : Int32) < c := own_cons (own_nr (own_rg hc0)) (own_nil)
    refine Gl.callIB X8 hx hZ (y := (⟨"java/lang/String", "<init>", "([C)V"⟩ : MethodName)) rfl hown (w15 hw) (w16 hw) (w17 hw) (desc_ne (by decide)) (C := 1) (N := 1) (W := 1) (StrChars.Road.QV Z b2 (1 : Int32) ((([(nar .char c0)] : List Int32)).map (fun c => c.toInt8.toInt32)) h8 n0) (b := b2) (argsL := [(.ref b3)]) (rest := [(.ref b2)]) (StrChars.Road.backV (W := 1) hZ (own_ws hw) (kI := 4) (w12 hw) (cs := ([(nar .char c0)] : List Int32)) (bs := (([(nar .char c0)] : List Int32)).map (fun c => c.toInt8.toInt32)) (n := 1) Gb2 (O8.1 ▸ O8.2.1) ec9 fc11 fc10 V8 (SC.ext O8.2) hcz rfl rfl (by decide) (by decide) hp12 rfl (by decide) (by decide)) (by decide) (by decide) e8 (pc := 16) (Ls := #[.val (.int p1), .val (.int c0), .val (.int c1), .val (.int c2)]) (st := [(.ref b3), (.ref b2), (.ref b2)]) (by rw [hml]; rfl) pd_1 rfl rfl (Nat.le_of_eq rfl) (hb hby d3_16) ?_
    intro v12 T12 L12 X12 hQ12
    obtain ⟨rfl, Nq12, Kq12, Eq12, Cq12, t12, kb12, Gt12, Ht12, nt12, Vq12, Bq12⟩ := hQ12
    have N12 := Fr.app N8 Nq12
    have Gt12 : n0 ≤ t12 := Gt12
    have ne_b2_t12 : b2 ≠ t12 := Nat.ne_of_lt (Nat.lt_of_lt_of_le ec9.lt Ht12)
    have ne_b3_t12 : b3 ≠ t12 := Nat.ne_of_lt (Nat.lt_of_lt_of_le V8.lt Ht12)
    have Jt12 : h0.size ≤ t12 := Nat.le_trans K8.1 Ht12
    have ec13 := ec9.keep Kq12
    have vc14 := V8.keep Kq12 (fun q => ne_b2_b3.symm (List.mem_singleton.mp q))
    have O12 := O8.keep Kq12 (allS Gb2 all0)
    have K12 := K8.trans Kq12 (by intro x hx'; cases List.mem_singleton.mp hx'; exact Or.inr Jb2)
    have SG12 : Strg Z T12.heap b2 t12 kb12 ([(nar .char c0)] : List Int32) := ⟨Eq12, Vq12, Cq12, Bq12, hp12, Nat.le_of_ble_eq_true rfl⟩
    show Gl p e below _ (T12.setTop (mkF m 19 #[.val (.int p1), .val (.int c0), .val (.int c1), .val (.int c2)] [(.ref b2)]))
    exact Gl.retR X12 hx hlk hret rfl rfl (hb hby d3_19) rfl (⟨_, _, _, rfl, (by have q := SG12; rw [own_nc (own_rg hc0)] at q; unfold own_sp; rw [if_pos hc2_1]; exact q), K12, N12, Gb2, Gt12, Jb2, Jt12⟩) (by decide) (by decide)
  · refine Gl.of (fun _ kq_ => XS.icmpYes X0.here hx rfl (pc0 := 2) (pc' := 20) rfl (hb hby d3_2) rfl (feq hc2_1).2 (by decide) (by decide) kq_) ?_
    show Gl p e below _ (s₁.setTop (mkF m 20 #[.val (.int p1), .val (.int c0), .val (.int c1), .val (.int c2)] []))
    refine Gl.of (fun _ kq_ => XS.iloadN X0.here hx rfl (hb hby d3_20) rfl kq_) ?_
    show Gl p e below _ (s₁.setTop (mkF m 21 #[.val (.int p1), .val (.int c0), .val (.int c1), .val (.int c2)] [(.int p1)]))
    refine Gl.of (fun _ kq_ => XS.iconst X0.here hx rfl (hb hby d3_21) kq_) ?_
    show Gl p e below _ (s₁.setTop (mkF m 22 #[.val (.int p1), .val (.int c0), .val (.int c1), .val (.int c2)] [(.int (2 : Int32)), (.int p1)]))
    by_cases hc22_15 : p1 = (2 : Int32)
    · refine Gl.of (fun _ kq_ => XS.icmpNo X0.here hx rfl (hb hby d3_22) rfl (teq hc22_15).2 kq_) ?_
      show Gl p e below _ (s₁.setTop (mkF m 25 #[.val (.int p1), .val (.int c0), .val (.int c1), .val (.int c2)] []))
      obtain ⟨T16, h16, X16, e16, E16, A16, D16, -, st16⟩ := newO X0 hx hZ hown (w11 hw) (w12 hw) (w13 hw) e0 (g := (mkF m 25 #[.val (.int p1), .val (.int c0), .val (.int c1), .val (.int c2)] [])) rfl (hb hby d3_25) (by decide) (by decide)
      obtain ⟨b16, g16⟩ : ∃ z, z = h0.size := ⟨_, rfl⟩
      rw [← g16] at A16 D16 st16
      refine Gl.of st16 ?_
      have Gb16 : n0 ≤ b16 := Nat.le_trans (O0.1 ▸ O0.2.1) (Nat.le_of_eq g16.symm)
      have Jb16 : h0.size ≤ b16 := Nat.le_trans K0.1 (Nat.le_of_eq g16.symm)
      have O16 := O0.ext E16
      have K16 := K0.ext E16
      have F16_coder : Fld Z h16 b16 "java/lang/String" "coder" "B" (.int (0 : Int32)) := D16 (Or.inr (w38 hw)) (ty := .byte) (by decide)
      have F16_value : Fld Z h16 b16 "java/lang/String" "value" "[B" .null := D16 (Or.inr (w40 hw)) (ty := (.array .byte)) (by decide)
      show Gl p e below _ (T16.setTop (mkF m 28 #[.val (.int p1), .val (.int c0), .val (.int c1), .val (.int c2)] [(.ref b16)]))
      refine Gl.of (fun _ kq_ => XS.dup X16.here hx rfl (hb hby d3_28) rfl rfl kq_) ?_
      show Gl p e below _ (T16.setTop (mkF m 29 #[.val (.int p1), .val (.int c0), .val (.int c1), .val (.int c2)] [(.ref b16), (.ref b16)]))
      refine Gl.of (fun _ kq_ => XS.iconst X16.here hx rfl (hb hby d3_29) kq_) ?_
      show Gl p e below _ (T16.setTop (mkF m 30 #[.val (.int p1), .val (.int c0), .val (.int c1), .val (.int c2)] [(.int (2 : Int32)), (.ref b16), (.ref b16)]))
      obtain ⟨T17, h17, k17, X17, e17, E17, A17, st17⟩ := newP (aty := .char) X16 hx hZ (w14 hw) e16 (g := (mkF m 30 #[.val (.int p1), .val (.int c0), .val (.int c1), .val (.int c2)] [(.int (2 : Int32)), (.ref b16), (.ref b16)])) rfl (hb hby d3_30) rfl (by decide) (cap := 2) (by decide) (by decide) (by decide) (by decide)
      obtain ⟨b17, g17⟩ : ∃ z, z = h16.size := ⟨_, rfl⟩
      rw [← g17] at A17 st17
      refine Gl.of st17 ?_
      have Gb17 : n0 ≤ b17 := Nat.le_trans (O16.1 ▸ O16.2.1) (Nat.le_of_eq g17.symm)
      have Jb17 : h0.size ≤ b17 := Nat.le_trans K16.1 (Nat.le_of_eq g17.symm)
      have ne_b16_b17 : b16 ≠ b17 := Nat.ne_of_lt (Nat.lt_of_lt_of_le A16.lt (Nat.le_of_eq g17.symm))
      have ec18 := A16.ext E17
      have fc19 := F16_coder.ext E17
      have fc20 := F16_value.ext E17
      have O17 := O16.ext E17
      have K17 := K16.ext E17
      have V17 : Arv Z h17 b17 k17 .char (2 : Int32) [(.int (0 : Int32)), (.int (0 : Int32))] (.int (0 : Int32)) := (Arv.new A17 (by decide)).pad (pad_rep [] (.int (0 : Int32)) 2)
      show Gl p e below _ (T17.setTop (mkF m 32 #[.val (.int p1), .val (.int c0), .val (.int c1), .val (.int c2)] [(.ref b17), (.ref b16), (.ref b16)]))
      refine Gl.of (fun _ kq_ => XS.dup X17.here hx rfl (hb hby d3_32) rfl rfl kq_) ?_
      show Gl p e below _ (T17.setTop (mkF m 33 #[.val (.int p1), .val (.int c0), .val (.int c1), .val (.int c2)] [(.ref b17), (.ref b17), (.ref b16), (.ref b16)]))
      refine Gl.of (fun _ kq_ => XS.iconst X17.here hx rfl (hb hby d3_33) kq_) ?_
      show Gl p e below _ (T17.setTop (mkF m 34 #[.val (.int p1), .val (.int c0), .val (.int c1), .val (.int c2)] [(.int (0 : Int32)), (.ref b17), (.ref b17), (.ref b16), (.ref b16)]))
      refine Gl.of (fun _ kq_ => XS.iloadN X17.here hx rfl (hb hby d3_34) rfl kq_) ?_
      show Gl p e below _ (T17.setTop (mkF m 35 #[.val (.int p1), .val (.int c0), .val (.int c1), .val (.int c2)] [(.int c0), (.int (0 : Int32)), (.ref b17), (.ref b17), (.ref b16), (.ref b16)]))
      obtain ⟨zcl21, zAr21, zq21, zS21, zM21, zH21, zG21⟩ := id V17
      obtain ⟨T22, h22, X22, e22, W22, st22⟩ := stC X17 hx hZ e17 zAr21 (j := (0 : Int32)) (inb_of zS21 ⟨by decide, by decide⟩) (g := (mkF m 35 #[.val (.int p1), .val (.int c0), .val (.int c1), .val (.int c2)] [(.int c0), (.int (0 : Int32)), (.ref b17), (.ref b17), (.ref b16), (.ref b16)])) rfl rfl (hb hby d3_35)
      refine Gl.of st22 ?_
      have V22 : Arv Z h22 b17 k17 .char (2 : Int32) [(.int (nar .char c0)), (.int (0 : Int32))] (.int (0 : Int32)) := Arv.set zAr21 zq21 zS21 zM21 zH21 zG21 (fits_nar_char _) W22 0 rfl (Nat.le_of_ble_eq_true rfl)
      have ec23 := ec18.wr W22
      have fc24 := fc19.other W22 (Or.inl ne_b16_b17)
      have fc25 := fc20.other W22 (Or.inl ne_b16_b17)
      have N22 := Fr.snoc X22 (Fr.nil n0) Gb17
      have O22 := O17.wr W22 Gb17
      have K22 := K17.wr W22 (Or.inr Jb17)
      show Gl p e below _ (T22.setTop (mkF m 36 #[.val (.int p1), .val (.int c0), .val (.int c1), .val (.int c2)] [(.ref b17), (.ref b16), (.ref b16)]))
      refine Gl.of (fun _ kq_ => XS.dup X22.here hx rfl (hb hby d3_36) rfl rfl kq_) ?_
      show Gl p e below _ (T22.setTop (mkF m 37 #[.val (.int p1), .val (.int c0), .val (.int c1), .val (.int c2)] [(.ref b17), (.ref b17), (.ref b16), (.ref b16)]))
      refine Gl.of (fun _ kq_ => XS.iconst X22.here hx rfl (hb hby d3_37) kq_) ?_
      show Gl p e below _ (T22.setTop (mkF m 38 #[.val (.int p1), .val (.int c0), .val (.int c1), .val (.int c2)] [(.int (1 : Int32)), (.ref b17), (.ref b17), (.ref b16), (.ref b16)]))
      refine Gl.of (fun _ kq_ => XS.iloadN X22.here hx rfl (hb hby d3_38) rfl kq_) ?_
      show Gl p e below _ (T22.setTop (mkF m 39 #[.val (.int p1), .val (.int c0), .val (.int c1), .val (.int c2)] [(.int c1), (.int (1 : Int32)), (.ref b17), (.ref b17), (.ref b16), (.ref b16)]))
      obtain ⟨zcl26, zAr26, zq26, zS26, zM26, zH26, zG26⟩ := id V22
      obtain ⟨T27, h27, X27, e27, W27, st27⟩ := stC X22 hx hZ e22 zAr26 (j := (1 : Int32)) (inb_of zS26 ⟨by decide, by decide⟩) (g := (mkF m 39 #[.val (.int p1), .val (.int c0), .val (.int c1), .val (.int c2)] [(.int c1), (.int (1 : Int32)), (.ref b17), (.ref b17), (.ref b16), (.ref b16)])) rfl rfl (hb hby d3_39)
      refine Gl.of st27 ?_
      have V27 : Arv Z h27 b17 k17 .char (2 : Int32) [(.int (nar .char c0)), (.int (nar .char c1))] (.int (0 : Int32)) := Arv.set zAr26 zq26 zS26 zM26 zH26 zG26 (fits_nar_char _) W27 1 rfl (Nat.le_of_ble_eq_true rfl)
      have ec28 := ec23.wr W27
      have fc29 := fc24.other W27 (Or.inl ne_b16_b17)
      have fc30 := fc25.other W27 (Or.inl ne_b16_b17)
      have N27 := Fr.snoc X27 N22 Gb17
      have O27 := O22.wr W27 Gb17
      have K27 := K22.wr W27 (Or.inr Jb17)
      show Gl p e below _ (T27.setTop (mkF m 40 #[.val (.int p1), .val (.int c0), .val (.int c1), .val (.int c2)] [(.ref b17), (.ref b16), (.ref b16)]))
      have hp31 : ∀ c ∈ ([(nar .char c0), (nar .char c1)] : List Int32), ¬ c < 0 ∧ ¬ (255 : Int32) < c := own_cons (own_nr (own_rg hc0)) (own_cons (own_nr (own_rg hc1)) (own_nil))
      refine Gl.callIB X27 hx hZ (y := (⟨"java/lang/String", "<init>", "([C)V"⟩ : MethodName)) rfl hown (w15 hw) (w16 hw) (w17 hw) (desc_ne (by decide)) (C := 1) (N := 2) (W := 1) (StrChars.Road.QV Z b16 (2 : Int32) ((([(nar .char c0), (nar .char c1)] : List Int32)).map (fun c => c.toInt8.toInt32)) h27 n0) (b := b16) (argsL := [(.ref b17)]) (rest := [(.ref b16)]) (StrChars.Road.backV (W := 1) hZ (own_ws hw) (kI := 4) (w12 hw) (cs := ([(nar .char c0), (nar .char c1)] : List Int32)) (bs := (([(nar .char c0), (nar .char c1)] : List Int32)).map (fun c => c.toInt8.toInt32)) (n := 2) Gb16 (O27.1 ▸ O27.2.1) ec28 fc30 fc29 V27 (SC.ext O27.2) hcz rfl rfl (by decide) (by decide) hp31 rfl (by decide) (by decide)) (by decide) (by decide) e27 (pc := 40) (Ls := #[.val (.int p1), .val (.int c0), .val (.int c1), .val (.int c2)]) (st := [(.ref b17), (.ref b16), (.ref b16)]) (by rw [hml]; rfl) pd_1 rfl rfl (Nat.le_of_eq rfl) (hb hby d3_40) ?_
      intro v31 T31 L31 X31 hQ31
      obtain ⟨rfl, Nq31, Kq31, Eq31, Cq31, t31, kb31, Gt31, Ht31, nt31, Vq31, Bq31⟩ := hQ31
      have N31 := Fr.app N27 Nq31
      have Gt31 : n0 ≤ t31 := Gt31
      have ne_b16_t31 : b16 ≠ t31 := Nat.ne_of_lt (Nat.lt_of_lt_of_le ec28.lt Ht31)
      have ne_b17_t31 : b17 ≠ t31 := Nat.ne_of_lt (Nat.lt_of_lt_of_le V27.lt Ht31)
      have Jt31 : h0.size ≤ t31 := Nat.le_trans K27.1 Ht31
      have ec32 := ec28.keep Kq31
      have vc33 := V27.keep Kq31 (fun q => ne_b16_b17.symm (List.mem_singleton.mp q))
      have O31 := O27.keep Kq31 (allS Gb16 all0)
      have K31 := K27.trans Kq31 (by intro x hx'; cases List.mem_singleton.mp hx'; exact Or.inr Jb16)
      have SG31 : Strg Z T31.heap b16 t31 kb31 ([(nar .char c0), (nar .char c1)] : List Int32) := ⟨Eq31, Vq31, Cq31, Bq31, hp31, Nat.le_of_ble_eq_true rfl⟩
      show Gl p e below _ (T31.setTop (mkF m 43 #[.val (.int p1), .val (.int c0), .val (.int c1), .val (.int c2)] [(.ref b16)]))
      exact Gl.retR X31 hx hlk hret rfl rfl (hb hby d3_43) rfl (⟨_, _, _, rfl, (by have q := SG31; rw [own_nc (own_rg hc0), own_nc (own_rg hc1)] at q; unfold own_sp; rw [if_neg hc2_1, if_pos hc22_15]; exact q), K31, N31, Gb16, Gt31, Jb16, Jt31⟩) (by decide) (by decide)
    · refine Gl.of (fun _ kq_ => XS.icmpYes X0.here hx rfl (pc0 := 22) (pc' := 44) rfl (hb hby d3_22) rfl (feq hc22_15).2 (by decide) (by decide) kq_) ?_
      show Gl p e below _ (s₁.setTop (mkF m 44 #[.val (.int p1), .val (.int c0), .val (.int c1), .val (.int c2)] []))
      obtain ⟨T34, h34, X34, e34, E34, A34, D34, -, st34⟩ := newO X0 hx hZ hown (w11 hw) (w12 hw) (w13 hw) e0 (g := (mkF m 44 #[.val (.int p1), .val (.int c0), .val (.int c1), .val (.int c2)] [])) rfl (hb hby d3_44) (by decide) (by decide)
      obtain ⟨b34, g34⟩ : ∃ z, z = h0.size := ⟨_, rfl⟩
      rw [← g34] at A34 D34 st34
      refine Gl.of st34 ?_
      have Gb34 : n0 ≤ b34 := Nat.le_trans (O0.1 ▸ O0.2.1) (Nat.le_of_eq g34.symm)
      have Jb34 : h0.size ≤ b34 := Nat.le_trans K0.1 (Nat.le_of_eq g34.symm)
      have O34 := O0.ext E34
      have K34 := K0.ext E34
      have F34_coder : Fld Z h34 b34 "java/lang/String" "coder" "B" (.int (0 : Int32)) := D34 (Or.inr (w38 hw)) (ty := .byte) (by decide)
      have F34_value : Fld Z h34 b34 "java/lang/String" "value" "[B" .null := D34 (Or.inr (w40 hw)) (ty := (.array .byte)) (by decide)
      show Gl p e below _ (T34.setTop (mkF m 47 #[.val (.int p1), .val (.int c0), .val (.int c1), .val (.int c2)] [(.ref b34)]))
      refine Gl.of (fun _ kq_ => XS.dup X34.here hx rfl (hb hby d3_47) rfl rfl kq_) ?_
      show Gl p e below _ (T34.setTop (mkF m 48 #[.val (.int p1), .val (.int c0), .val (.int c1), .val (.int c2)] [(.ref b34), (.ref b34)]))
      refine Gl.of (fun _ kq_ => XS.iconst X34.here hx rfl (hb hby d3_48) kq_) ?_
      show Gl p e below _ (T34.setTop (mkF m 49 #[.val (.int p1), .val (.int c0), .val (.int c1), .val (.int c2)] [(.int (3 : Int32)), (.ref b34), (.ref b34)]))
      obtain ⟨T35, h35, k35, X35, e35, E35, A35, st35⟩ := newP (aty := .char) X34 hx hZ (w14 hw) e34 (g := (mkF m 49 #[.val (.int p1), .val (.int c0), .val (.int c1), .val (.int c2)] [(.int (3 : Int32)), (.ref b34), (.ref b34)])) rfl (hb hby d3_49) rfl (by decide) (cap := 3) (by decide) (by decide) (by decide) (by decide)
      obtain ⟨b35, g35⟩ : ∃ z, z = h34.size := ⟨_, rfl⟩
      rw [← g35] at A35 st35
      refine Gl.of st35 ?_
      have Gb35 : n0 ≤ b35 := Nat.le_trans (O34.1 ▸ O34.2.1) (Nat.le_of_eq g35.symm)
      have Jb35 : h0.size ≤ b35 := Nat.le_trans K34.1 (Nat.le_of_eq g35.symm)
      have ne_b34_b35 : b34 ≠ b35 := Nat.ne_of_lt (Nat.lt_of_lt_of_le A34.lt (Nat.le_of_eq g35.symm))
      have ec36 := A34.ext E35
      have fc37 := F34_coder.ext E35
      have fc38 := F34_value.ext E35
      have O35 := O34.ext E35
      have K35 := K34.ext E35
      have V35 : Arv Z h35 b35 k35 .char (3 : Int32) [(.int (0 : Int32)), (.int (0 : Int32)), (.int (0 : Int32))] (.int (0 : Int32)) := (Arv.new A35 (by decide)).pad (pad_rep [] (.int (0 : Int32)) 3)
      show Gl p e below _ (T35.setTop (mkF m 51 #[.val (.int p1), .val (.int c0), .val (.int c1), .val (.int c2)] [(.ref b35), (.ref b34), (.ref b34)]))
      refine Gl.of (fun _ kq_ => XS.dup X35.here hx rfl (hb hby d3_51) rfl rfl kq_) ?_
      show Gl p e below _ (T35.setTop (mkF m 52 #[.val (.int p1), .val (.int c0), .val (.int c1), .val (.int c2)] [(.ref b35), (.ref b35), (.ref b34), (.ref b34)]))
      refine Gl.of (fun _ kq_ => XS.iconst X35.here hx rfl (hb hby d3_52) kq_) ?_
      show Gl p e below _ (T35.setTop (mkF m 53 #[.val (.int p1), .val (.int c0), .val (.int c1), .val (.int c2)] [(.int (0 : Int32)), (.ref b35), (.ref b35), (.ref b34), (.ref b34)]))
      refine Gl.of (fun _ kq_ => XS.iloadN X35.here hx rfl (hb hby d3_53) rfl kq_) ?_
      show Gl p e below _ (T35.setTop (mkF m 54 #[.val (.int p1), .val (.int c0), .val (.int c1), .val (.int c2)] [(.int c0), (.int (0 : Int32)), (.ref b35), (.ref b35), (.ref b34), (.ref b34)]))
      obtain ⟨zcl39, zAr39, zq39, zS39, zM39, zH39, zG39⟩ := id V35
      obtain ⟨T40, h40, X40, e40, W40, st40⟩ := stC X35 hx hZ e35 zAr39 (j := (0 : Int32)) (inb_of zS39 ⟨by decide, by decide⟩) (g := (mkF m 54 #[.val (.int p1), .val (.int c0), .val (.int c1), .val (.int c2)] [(.int c0), (.int (0 : Int32)), (.ref b35), (.ref b35), (.ref b34), (.ref b34)])) rfl rfl (hb hby d3_54)
      refine Gl.of st40 ?_
      have V40 : Arv Z h40 b35 k35 .char (3 : Int32) [(.int (nar .char c0)), (.int (0 : Int32)), (.int (0 : Int32))] (.int (0 : Int32)) := Arv.set zAr39 zq39 zS39 zM39 zH39 zG39 (fits_nar_char _) W40 0 rfl (Nat.le_of_ble_eq_true rfl)
      have ec41 := ec36.wr W40
      have fc42 := fc37.other W40 (Or.inl ne_b34_b35)
      have fc43 := fc38.other W40 (Or.inl ne_b34_b35)
      have N40 := Fr.snoc X40 (Fr.nil n0) Gb35
      have O40 := O35.wr W40 Gb35
      have K40 := K35.wr W40 (Or.inr Jb35)
      show Gl p e below _ (T40.setTop (mkF m 55 #[.val (.int p1), .val (.int c0), .val (.int c1), .val (.int c2)] [(.ref b35), (.ref b34), (.ref b34)]))
      refine Gl.of (fun _ kq_ => XS.dup X40.here hx rfl (hb hby d3_55) rfl rfl kq_) ?_
      show Gl p e below _ (T40.setTop (mkF m 56 #[.val (.int p1), .val (.int c0), .val (.int c1), .val (.int c2)] [(.ref b35), (.ref b35), (.ref b34), (.ref b34)]))
      refine Gl.of (fun _ kq_ => XS.iconst X40.here hx rfl (hb hby d3_56) kq_) ?_
      show Gl p e below _ (T40.setTop (mkF m 57 #[.val (.int p1), .val (.int c0), .val (.int c1), .val (.int c2)] [(.int (1 : Int32)), (.ref b35), (.ref b35), (.ref b34), (.ref b34)]))
      refine Gl.of (fun _ kq_ => XS.iloadN X40.here hx rfl (hb hby d3_57) rfl kq_) ?_
      show Gl p e below _ (T40.setTop (mkF m 58 #[.val (.int p1), .val (.int c0), .val (.int c1), .val (.int c2)] [(.int c1), (.int (1 : Int32)), (.ref b35), (.ref b35), (.ref b34), (.ref b34)]))
      obtain ⟨zcl44, zAr44, zq44, zS44, zM44, zH44, zG44⟩ := id V40
      obtain ⟨T45, h45, X45, e45, W45, st45⟩ := stC X40 hx hZ e40 zAr44 (j := (1 : Int32)) (inb_of zS44 ⟨by decide, by decide⟩) (g := (mkF m 58 #[.val (.int p1), .val (.int c0), .val (.int c1), .val (.int c2)] [(.int c1), (.int (1 : Int32)), (.ref b35), (.ref b35), (.ref b34), (.ref b34)])) rfl rfl (hb hby d3_58)
      refine Gl.of st45 ?_
      have V45 : Arv Z h45 b35 k35 .char (3 : Int32) [(.int (nar .char c0)), (.int (nar .char c1)), (.int (0 : Int32))] (.int (0 : Int32)) := Arv.set zAr44 zq44 zS44 zM44 zH44 zG44 (fits_nar_char _) W45 1 rfl (Nat.le_of_ble_eq_true rfl)
      have ec46 := ec41.wr W45
      have fc47 := fc42.other W45 (Or.inl ne_b34_b35)
      have fc48 := fc43.other W45 (Or.inl ne_b34_b35)
      have N45 := Fr.snoc X45 N40 Gb35
      have O45 := O40.wr W45 Gb35
      have K45 := K40.wr W45 (Or.inr Jb35)
      show Gl p e below _ (T45.setTop (mkF m 59 #[.val (.int p1), .val (.int c0), .val (.int c1), .val (.int c2)] [(.ref b35), (.ref b34), (.ref b34)]))
      refine Gl.of (fun _ kq_ => XS.dup X45.here hx rfl (hb hby d3_59) rfl rfl kq_) ?_
      show Gl p e below _ (T45.setTop (mkF m 60 #[.val (.int p1), .val (.int c0), .val (.int c1), .val (.int c2)] [(.ref b35), (.ref b35), (.ref b34), (.ref b34)]))
      refine Gl.of (fun _ kq_ => XS.iconst X45.here hx rfl (hb hby d3_60) kq_) ?_
      show Gl p e below _ (T45.setTop (mkF m 61 #[.val (.int p1), .val (.int c0), .val (.int c1), .val (.int c2)] [(.int (2 : Int32)), (.ref b35), (.ref b35), (.ref b34), (.ref b34)]))
      refine Gl.of (fun _ kq_ => XS.iloadN X45.here hx rfl (hb hby d3_61) rfl kq_) ?_
      show Gl p e below _ (T45.setTop (mkF m 62 #[.val (.int p1), .val (.int c0), .val (.int c1), .val (.int c2)] [(.int c2), (.int (2 : Int32)), (.ref b35), (.ref b35), (.ref b34), (.ref b34)]))
      obtain ⟨zcl49, zAr49, zq49, zS49, zM49, zH49, zG49⟩ := id V45
      obtain ⟨T50, h50, X50, e50, W50, st50⟩ := stC X45 hx hZ e45 zAr49 (j := (2 : Int32)) (inb_of zS49 ⟨by decide, by decide⟩) (g := (mkF m 62 #[.val (.int p1), .val (.int c0), .val (.int c1), .val (.int c2)] [(.int c2), (.int (2 : Int32)), (.ref b35), (.ref b35), (.ref b34), (.ref b34)])) rfl rfl (hb hby d3_62)
      refine Gl.of st50 ?_
      have V50 : Arv Z h50 b35 k35 .char (3 : Int32) [(.int (nar .char c0)), (.int (nar .char c1)), (.int (nar .char c2))] (.int (0 : Int32)) := Arv.set zAr49 zq49 zS49 zM49 zH49 zG49 (fits_nar_char _) W50 2 rfl (Nat.le_of_ble_eq_true rfl)
      have ec51 := ec46.wr W50
      have fc52 := fc47.other W50 (Or.inl ne_b34_b35)
      have fc53 := fc48.other W50 (Or.inl ne_b34_b35)
      have N50 := Fr.snoc X50 N45 Gb35
      have O50 := O45.wr W50 Gb35
      have K50 := K45.wr W50 (Or.inr Jb35)
      show Gl p e below _ (T50.setTop (mkF m 63 #[.val (.int p1), .val (.int c0), .val (.int c1), .val (.int c2)] [(.ref b35), (.ref b34), (.ref b34)]))
      have hp54 : ∀ c ∈ ([(nar .char c0), (nar .char c1), (nar .char c2)] : List Int32), ¬ c < 0 ∧ ¬ (255 : Int32) < c := own_cons (own_nr (own_rg hc0)) (own_cons (own_nr (own_rg hc1)) (own_cons (own_nr (own_rg hc2)) (own_nil)))
      refine Gl.callIB X50 hx hZ (y := (⟨"java/lang/String", "<init>", "([C)V"⟩ : MethodName)) rfl hown (w15 hw) (w16 hw) (w17 hw) (desc_ne (by decide)) (C := 1) (N := 3) (W := 1) (StrChars.Road.QV Z b34 (3 : Int32) ((([(nar .char c0), (nar .char c1), (nar .char c2)] : List Int32)).map (fun c => c.toInt8.toInt32)) h50 n0) (b := b34) (argsL := [(.ref b35)]) (rest := [(.ref b34)]) (StrChars.Road.backV (W := 1) hZ (own_ws hw) (kI := 4) (w12 hw) (cs := ([(nar .char c0), (nar .char c1), (nar .char c2)] : List Int32)) (bs := (([(nar .char c0), (nar .char c1), (nar .char c2)] : List Int32)).map (fun c => c.toInt8.toInt32)) (n := 3) Gb34 (O50.1 ▸ O50.2.1) ec51 fc53 fc52 V50 (SC.ext O50.2) hcz rfl rfl (by decide) (by decide) hp54 rfl (by decide) (by decide)) (by decide) (by decide) e50 (pc := 63) (Ls := #[.val (.int p1), .val (.int c0), .val (.int c1), .val (.int c2)]) (st := [(.ref b35), (.ref b34), (.ref b34)]) (by rw [hml]; rfl) pd_1 rfl rfl (Nat.le_of_eq rfl) (hb hby d3_63) ?_
      intro v54 T54 L54 X54 hQ54
      obtain ⟨rfl, Nq54, Kq54, Eq54, Cq54, t54, kb54, Gt54, Ht54, nt54, Vq54, Bq54⟩ := hQ54
      have N54 := Fr.app N50 Nq54
      have Gt54 : n0 ≤ t54 := Gt54
      have ne_b34_t54 : b34 ≠ t54 := Nat.ne_of_lt (Nat.lt_of_lt_of_le ec51.lt Ht54)
      have ne_b35_t54 : b35 ≠ t54 := Nat.ne_of_lt (Nat.lt_of_lt_of_le V50.lt Ht54)
      have Jt54 : h0.size ≤ t54 := Nat.le_trans K50.1 Ht54
      have ec55 := ec51.keep Kq54
      have vc56 := V50.keep Kq54 (fun q => ne_b34_b35.symm (List.mem_singleton.mp q))
      have O54 := O50.keep Kq54 (allS Gb34 all0)
      have K54 := K50.trans Kq54 (by intro x hx'; cases List.mem_singleton.mp hx'; exact Or.inr Jb34)
      have SG54 : Strg Z T54.heap b34 t54 kb54 ([(nar .char c0), (nar .char c1), (nar .char c2)] : List Int32) := ⟨Eq54, Vq54, Cq54, Bq54, hp54, Nat.le_of_ble_eq_true rfl⟩
      show Gl p e below _ (T54.setTop (mkF m 66 #[.val (.int p1), .val (.int c0), .val (.int c1), .val (.int c2)] [(.ref b34)]))
      exact Gl.retR X54 hx hlk hret rfl rfl (hb hby d3_66) rfl (⟨_, _, _, rfl, (by have q := SG54; rw [own_nc (own_rg hc0), own_nc (own_rg hc1), own_nc (own_rg hc2)] at q; unfold own_sp; rw [if_neg hc2_1, if_neg hc22_15]; exact q), K54, N54, Gb34, Gt54, Jb34, Jt54⟩) (by decide) (by decide)
theorem ef_8 (m : MethodId) (x0 : Addr) (x1 : Addr) : entryFrame m #[(.ref x0), (.ref x1)] 3 = mkF m 0 #[.val (.ref x0), .val (.ref x1), .unset] [] := by first | (simp [entryFrame, mkF, argsToLocals, Value.category, maxLocals]; done) | rfl
theorem d10_0 : decode prog_10_method_1_code 0 = .ok (.aload_n 0, 1) := by decide +kernel
theorem d10_1 : decode prog_10_method_1_code 1 = .ok (.invokespecial 1, 3) := by decide +kernel
theorem pd_2 : parseMethodDescriptor "()V" = some ⟨[], none⟩ := by decide +kernel
theorem w47 {Z : State} {a0 : Array Value} (hw : ∀ d ∈ tables_1, d.before a0 Z = true) : (Jvm.Cond.methodLink "com/example/schenley/schenley/Identifier" (1 : Nat) ({ cls := "java/lang/Record", name := "<init>", desc := "()V" } : Jvm.MethodName)).before a0 Z = true := hw _ (List.mem_of_getElem? (i := 47) rfl)
theorem w48 {Z : State} {a0 : Array Value} (hw : ∀ d ∈ tables_1, d.before a0 Z = true) : (Jvm.Cond.instanceMethod ({ cls := "java/lang/Record", name := "<init>", desc := "()V" } : Jvm.MethodName)).before a0 Z = true := hw _ (List.mem_of_getElem? (i := 48) rfl)
theorem w50 {Z : State} {a0 : Array Value} (hw : ∀ d ∈ tables_1, d.before a0 Z = true) : (Jvm.Cond.initialized "java/lang/Record").before a0 Z = true := hw _ (List.mem_of_getElem? (i := 50) rfl)
theorem w51 {Z : State} {a0 : Array Value} (hw : ∀ d ∈ tables_1, d.before a0 Z = true) : (Jvm.Cond.code ({ cls := "java/lang/Record", name := "<init>", desc := "()V" } : Jvm.MethodName) jdk_30_method_1_code (1 : Nat) (Option.none : Option Jvm.ClassFile.FieldType)).before a0 Z = true := hw _ (List.mem_of_getElem? (i := 51) rfl)
theorem d10_4 : decode prog_10_method_1_code 4 = .ok (.aload_n 1, 1) := by decide +kernel
theorem d10_5 : decode prog_10_method_1_code 5 = .ok (.ldc 7, 2) := by decide +kernel
theorem w53 {Z : State} {a0 : Array Value} (hw : ∀ d ∈ tables_1, d.before a0 Z = true) : (Jvm.Cond.stringLink "com/example/schenley/schenley/Identifier" (7 : Nat) "name").before a0 Z = true := hw _ (List.mem_of_getElem? (i := 53) rfl)
theorem d10_7 : decode prog_10_method_1_code 7 = .ok (.invokestatic 9, 3) := by decide +kernel
theorem pd_3 : parseMethodDescriptor "(Ljava/lang/Object;Ljava/lang/String;)Ljava/lang/Object;" = some ⟨[(.object "java/lang/Object"), (.object "java/lang/String")], some (.object "java/lang/Object")⟩ := by decide +kernel
theorem w56 {Z : State} {a0 : Array Value} (hw : ∀ d ∈ tables_1, d.before a0 Z = true) : (Jvm.Cond.methodLink "com/example/schenley/schenley/Identifier" (9 : Nat) ({ cls := "java/util/Objects", name := "requireNonNull", desc := "(Ljava/lang/Object;Ljava/lang/String;)Ljava/lang/Object;" } : Jvm.MethodName)).before a0 Z = true := hw _ (List.mem_of_getElem? (i := 56) rfl)
theorem w57 {Z : State} {a0 : Array Value} (hw : ∀ d ∈ tables_1, d.before a0 Z = true) : (Jvm.Cond.static ({ cls := "java/util/Objects", name := "requireNonNull", desc := "(Ljava/lang/Object;Ljava/lang/String;)Ljava/lang/Object;" } : Jvm.MethodName)).before a0 Z = true := hw _ (List.mem_of_getElem? (i := 57) rfl)
theorem w58 {Z : State} {a0 : Array Value} (hw : ∀ d ∈ tables_1, d.before a0 Z = true) : (Jvm.Cond.initialized "java/util/Objects").before a0 Z = true := hw _ (List.mem_of_getElem? (i := 58) rfl)
theorem w59 {Z : State} {a0 : Array Value} (hw : ∀ d ∈ tables_1, d.before a0 Z = true) : (Jvm.Cond.code ({ cls := "java/util/Objects", name := "requireNonNull", desc := "(Ljava/lang/Object;Ljava/lang/String;)Ljava/lang/Object;" } : Jvm.MethodName) jdk_31_method_11_code (2 : Nat) (Option.some (Jvm.ClassFile.FieldType.object "java/lang/Object"))).before a0 Z = true := hw _ (List.mem_of_getElem? (i := 59) rfl)
theorem d10_10 : decode prog_10_method_1_code 10 = .ok (.pop, 1) := by decide +kernel
theorem d10_11 : decode prog_10_method_1_code 11 = .ok (.aload_n 1, 1) := by decide +kernel
theorem d10_12 : decode prog_10_method_1_code 12 = .ok (.invokevirtual 15, 3) := by decide +kernel
theorem w60 {Z : State} {a0 : Array Value} (hw : ∀ d ∈ tables_1, d.before a0 Z = true) : (Jvm.Cond.methodLink "com/example/schenley/schenley/Identifier" (15 : Nat) ({ cls := "java/lang/String", name := "isEmpty", desc := "()Z" } : Jvm.MethodName)).before a0 Z = true := hw _ (List.mem_of_getElem? (i := 60) rfl)
theorem w61 {Z : State} {a0 : Array Value} (hw : ∀ d ∈ tables_1, d.before a0 Z = true) : (Jvm.Cond.declares ({ cls := "java/lang/String", name := "isEmpty", desc := "()Z" } : Jvm.MethodName)).before a0 Z = true := hw _ (List.mem_of_getElem? (i := 61) rfl)
theorem w63 {Z : State} {a0 : Array Value} (hw : ∀ d ∈ tables_1, d.before a0 Z = true) : (Jvm.Cond.selects "java/lang/String" ({ cls := "java/lang/String", name := "isEmpty", desc := "()Z" } : Jvm.MethodName) ({ cls := "java/lang/String", name := "isEmpty", desc := "()Z" } : Jvm.MethodName)).before a0 Z = true := hw _ (List.mem_of_getElem? (i := 63) rfl)
theorem w62 {Z : State} {a0 : Array Value} (hw : ∀ d ∈ tables_1, d.before a0 Z = true) : (Jvm.Cond.instanceMethod ({ cls := "java/lang/String", name := "isEmpty", desc := "()Z" } : Jvm.MethodName)).before a0 Z = true := hw _ (List.mem_of_getElem? (i := 62) rfl)
theorem pd_4 : parseMethodDescriptor "()Z" = some ⟨[], some .boolean⟩ := by decide +kernel
theorem d10_15 : decode prog_10_method_1_code 15 = .ok (.ifCond .eq 10, 3) := by decide +kernel
theorem d10_25 : decode prog_10_method_1_code 25 = .ok (.aload_n 1, 1) := by decide +kernel
theorem d10_26 : decode prog_10_method_1_code 26 = .ok (.invokevirtual 29, 3) := by decide +kernel
theorem w65 {Z : State} {a0 : Array Value} (hw : ∀ d ∈ tables_1, d.before a0 Z = true) : (Jvm.Cond.methodLink "com/example/schenley/schenley/Identifier" (29 : Nat) ({ cls := "java/lang/String", name := "length", desc := "()I" } : Jvm.MethodName)).before a0 Z = true := hw _ (List.mem_of_getElem? (i := 65) rfl)
theorem w66 {Z : State} {a0 : Array Value} (hw : ∀ d ∈ tables_1, d.before a0 Z = true) : (Jvm.Cond.declares ({ cls := "java/lang/String", name := "length", desc := "()I" } : Jvm.MethodName)).before a0 Z = true := hw _ (List.mem_of_getElem? (i := 66) rfl)
theorem w68 {Z : State} {a0 : Array Value} (hw : ∀ d ∈ tables_1, d.before a0 Z = true) : (Jvm.Cond.selects "java/lang/String" ({ cls := "java/lang/String", name := "length", desc := "()I" } : Jvm.MethodName) ({ cls := "java/lang/String", name := "length", desc := "()I" } : Jvm.MethodName)).before a0 Z = true := hw _ (List.mem_of_getElem? (i := 68) rfl)
theorem w67 {Z : State} {a0 : Array Value} (hw : ∀ d ∈ tables_1, d.before a0 Z = true) : (Jvm.Cond.instanceMethod ({ cls := "java/lang/String", name := "length", desc := "()I" } : Jvm.MethodName)).before a0 Z = true := hw _ (List.mem_of_getElem? (i := 67) rfl)
theorem pd_5 : parseMethodDescriptor "()I" = some ⟨[], some .int⟩ := by decide +kernel
theorem d10_29 : decode prog_10_method_1_code 29 = .ok (.bipush 63, 2) := by decide +kernel
theorem d10_31 : decode prog_10_method_1_code 31 = .ok (.if_icmp .le 17, 3) := by decide +kernel
theorem d10_48 : decode prog_10_method_1_code 48 = .ok (.aload_n 1, 1) := by decide +kernel
theorem d10_49 : decode prog_10_method_1_code 49 = .ok (.iconst 0, 1) := by decide +kernel
theorem d10_50 : decode prog_10_method_1_code 50 = .ok (.invokevirtual 37, 3) := by decide +kernel
theorem w75 {Z : State} {a0 : Array Value} (hw : ∀ d ∈ tables_1, d.before a0 Z = true) : (Jvm.Cond.methodLink "com/example/schenley/schenley/Identifier" (37 : Nat) ({ cls := "java/lang/String", name := "charAt", desc := "(I)C" } : Jvm.MethodName)).before a0 Z = true := hw _ (List.mem_of_getElem? (i := 75) rfl)
theorem w76 {Z : State} {a0 : Array Value} (hw : ∀ d ∈ tables_1, d.before a0 Z = true) : (Jvm.Cond.declares ({ cls := "java/lang/String", name := "charAt", desc := "(I)C" } : Jvm.MethodName)).before a0 Z = true := hw _ (List.mem_of_getElem? (i := 76) rfl)
theorem w78 {Z : State} {a0 : Array Value} (hw : ∀ d ∈ tables_1, d.before a0 Z = true) : (Jvm.Cond.selects "java/lang/String" ({ cls := "java/lang/String", name := "charAt", desc := "(I)C" } : Jvm.MethodName) ({ cls := "java/lang/String", name := "charAt", desc := "(I)C" } : Jvm.MethodName)).before a0 Z = true := hw _ (List.mem_of_getElem? (i := 78) rfl)
theorem w77 {Z : State} {a0 : Array Value} (hw : ∀ d ∈ tables_1, d.before a0 Z = true) : (Jvm.Cond.instanceMethod ({ cls := "java/lang/String", name := "charAt", desc := "(I)C" } : Jvm.MethodName)).before a0 Z = true := hw _ (List.mem_of_getElem? (i := 77) rfl)
theorem pd_6 : parseMethodDescriptor "(I)C" = some ⟨[.int], some .char⟩ := by decide +kernel
theorem d10_53 : decode prog_10_method_1_code 53 = .ok (.invokestatic 41, 3) := by decide +kernel
theorem d10_56 : decode prog_10_method_1_code 56 = .ok (.ifCond .eq 10, 3) := by decide +kernel
theorem d10_66 : decode prog_10_method_1_code 66 = .ok (.iconst 0, 1) := by decide +kernel
theorem d10_67 : decode prog_10_method_1_code 67 = .ok (.istore_n 2, 1) := by decide +kernel
theorem d10_68 : decode prog_10_method_1_code 68 = .ok (.iload_n 2, 1) := by decide +kernel
theorem d10_69 : decode prog_10_method_1_code 69 = .ok (.aload_n 1, 1) := by decide +kernel
theorem d10_70 : decode prog_10_method_1_code 70 = .ok (.invokevirtual 29, 3) := by decide +kernel
theorem d10_73 : decode prog_10_method_1_code 73 = .ok (.if_icmp .ge 39, 3) := by decide +kernel
theorem d10_76 : decode prog_10_method_1_code 76 = .ok (.aload_n 1, 1) := by decide +kernel
theorem d10_77 : decode prog_10_method_1_code 77 = .ok (.iload_n 2, 1) := by decide +kernel
theorem d10_78 : decode prog_10_method_1_code 78 = .ok (.invokevirtual 37, 3) := by decide +kernel
theorem d10_81 : decode prog_10_method_1_code 81 = .ok (.invokestatic 47, 3) := by decide +kernel
theorem w100 {Z : State} {a0 : Array Value} (hw : ∀ d ∈ tables_1, d.before a0 Z = true) : (Jvm.Cond.methodLink "com/example/schenley/schenley/Identifier" (47 : Nat) ({ cls := "com/example/schenley/schenley/Identifier", name := "isPlain", desc := "(C)Z" } : Jvm.MethodName)).before a0 Z = true := hw _ (List.mem_of_getElem? (i := 100) rfl)
theorem w101 {Z : State} {a0 : Array Value} (hw : ∀ d ∈ tables_1, d.before a0 Z = true) : (Jvm.Cond.static ({ cls := "com/example/schenley/schenley/Identifier", name := "isPlain", desc := "(C)Z" } : Jvm.MethodName)).before a0 Z = true := hw _ (List.mem_of_getElem? (i := 101) rfl)
theorem w102 {Z : State} {a0 : Array Value} (hw : ∀ d ∈ tables_1, d.before a0 Z = true) : (Jvm.Cond.code ({ cls := "com/example/schenley/schenley/Identifier", name := "isPlain", desc := "(C)Z" } : Jvm.MethodName) prog_10_method_5_code (1 : Nat) (Option.some Jvm.ClassFile.FieldType.boolean)).before a0 Z = true := hw _ (List.mem_of_getElem? (i := 102) rfl)
theorem d10_84 : decode prog_10_method_1_code 84 = .ok (.ifCond .ne 22, 3) := by decide +kernel
theorem d10_106 : decode prog_10_method_1_code 106 = .ok (.iinc 2 1, 3) := by decide +kernel
theorem d10_109 : decode prog_10_method_1_code 109 = .ok (.goto (-41), 3) := by decide +kernel
theorem d10_112 : decode prog_10_method_1_code 112 = .ok (.aload_n 0, 1) := by decide +kernel
theorem d10_113 : decode prog_10_method_1_code 113 = .ok (.aload_n 1, 1) := by decide +kernel
theorem d10_114 : decode prog_10_method_1_code 114 = .ok (.putfield 60, 3) := by decide +kernel
theorem w103 {Z : State} {a0 : Array Value} (hw : ∀ d ∈ tables_1, d.before a0 Z = true) : (Jvm.Cond.fieldLink "com/example/schenley/schenley/Identifier" (60 : Nat) "com/example/schenley/schenley/Identifier" "name" "Ljava/lang/String;").before a0 Z = true := hw _ (List.mem_of_getElem? (i := 103) rfl)
theorem w104 {Z : State} {a0 : Array Value} (hw : ∀ d ∈ tables_1, d.before a0 Z = true) : (Jvm.Cond.laysFinal "com/example/schenley/schenley/Identifier" "com/example/schenley/schenley/Identifier" "name" "Ljava/lang/String;").before a0 Z = true := hw _ (List.mem_of_getElem? (i := 104) rfl)
theorem w42 {Z : State} {a0 : Array Value} (hw : ∀ d ∈ tables_1, d.before a0 Z = true) : (Jvm.Cond.instantiable "com/example/schenley/schenley/Identifier" (1 : Nat)).before a0 Z = true := hw _ (List.mem_of_getElem? (i := 42) rfl)
theorem d10_117 : decode prog_10_method_1_code 117 = .ok (.return_, 1) := by decide +kernel
set_option maxRecDepth 65536 in
set_option maxHeartbeats 40000000 in
theorem rmI1 (l : Launch) (Z : State) (a0 : Array Value) (hw : ∀ d ∈ tables_1, d.before a0 Z = true) (h0 : Heap) (a1 x1 t1 : Addr) (kb1 : ClassId) (c0 : Int32) (cz : Int32) (fm : Value) (n0 : Nat) (h0' : own_fst c0) (E1 : Exa Z h0 a1 "com/example/schenley/schenley/Identifier") (I1 : Fld Z h0 a1 "com/example/schenley/schenley/Identifier" "name" "Ljava/lang/String;" .null) (Ga1 : n0 ≤ a1) (SN : Strg Z h0 x1 t1 kb1 [c0]) (hn1 : x1 ≠ a1) (hn2 : t1 ≠ a1) (SC : Sta Z Z.heap "java/lang/String" "COMPACT_STRINGS" "Z" (.int cz)) (hcz : ¬ cz = 0) (SF : Sta Z Z.heap "jdk/internal/util/Preconditions" "SIOOBE_FORMATTER" "Ljava/util/function/BiFunction;" fm) (rf : fm.isRef = true) (O0 : Old Z n0 h0) : ConW l Z (⟨"com/example/schenley/schenley/Identifier", "<init>", "(Ljava/lang/String;)V"⟩ : MethodName) prog_10_method_1_code 3 none [] ({ frames := 4, cells := 2, slots := 20, locals := 53 } : Room) 2 20 #[(.ref a1), (.ref x1)] h0 (fun v h L => v = none ∧ Fr n0 L ∧ Keep h0 h [a1] ∧ Fld Z h a1 "com/example/schenley/schenley/Identifier" "name" "Ljava/lang/String;" (.ref x1)) := by
  refine ConW.intro (plainFor_of_name pn_1) ?_
  intro p e s m below meth c s₁ X0 hx hby hml hZ hown hnm hret hlk e0 hs0
  refine Gl.of (fun _ kq_ => castTop (ef_8 m a1 x1) kq_) ?_
  have hS0 := (State.WarmedH.refl s).since 0
  have hk0 : 0 ≤ h0.size := Nat.zero_le _
  have K0 := Keep.refl h0 [a1]
  show Gl p e below _ (s₁.setTop (mkF m 0 #[.val (.ref a1), .val (.ref x1), .unset] []))
  refine Gl.of (fun _ kq_ => XS.aloadN X0.here hx rfl (hb hby d10_0) rfl rfl kq_) ?_
  show Gl p e below _ (s₁.setTop (mkF m 1 #[.val (.ref a1), .val (.ref x1), .unset] [(.ref a1)]))
  refine Gl.callI0 X0 hx hZ (y := (⟨"java/lang/Record", "<init>", "()V"⟩ : MethodName)) rfl hown (w47 hw) (w48 hw) (w50 hw) (w51 hw) (desc_ne (by decide)) (b := a1) (argsL := []) (rest := []) (rmR l Z a0 hw _ a1) 0 (by decide) (by decide) e0 (pc := 1) (Ls := #[.val (.ref a1), .val (.ref x1), .unset]) (st := [(.ref a1)]) (by rw [hml]; rfl) pd_2 rfl rfl (Nat.le_of_eq rfl) (hb hby d10_1) (by decide) (by decide) ?_
  intro v1 T1 X1 e1 hv1
  subst hv1
  show Gl p e below _ (T1.setTop (mkF m 4 #[.val (.ref a1), .val (.ref x1), .unset] []))
  refine Gl.of (fun _ kq_ => XS.aloadN X1.here hx rfl (hb hby d10_4) rfl rfl kq_) ?_
  show Gl p e below _ (T1.setTop (mkF m 5 #[.val (.ref a1), .val (.ref x1), .unset] [(.ref x1)]))
  obtain ⟨b2, T2, h2, k2, X2, e2, E2, hS2, hk2, hZ, hown, st2⟩ := ldcS X1 hx hZ hown (w53 hw) (own_str hw) e1 hS0 hk0 (g := (mkF m 5 #[.val (.ref a1), .val (.ref x1), .unset] [(.ref x1)])) rfl (hb hby d10_5) (n := 16) (by decide) (by decide) (by decide) (by decide)
  refine Gl.of st2 ?_
  have ec3 := E1.ext E2
  have fc4 := I1.ext E2
  have gc5 := SN.ext E2
  have O2 := O0.ext E2
  have K2 := K0.ext E2
  show Gl p e below _ (T2.setTop (mkF m 7 #[.val (.ref a1), .val (.ref x1), .unset] [(.ref b2), (.ref x1)]))
  refine Gl.callS0 X2 hx hZ (y := (⟨"java/util/Objects", "requireNonNull", "(Ljava/lang/Object;Ljava/lang/String;)Ljava/lang/Object;"⟩ : MethodName)) hown (w56 hw) (w57 hw) (w58 hw) (w59 hw) (desc_ne (by decide)) (argsL := [(.ref x1), (.ref b2)]) (rest := []) (rmN l Z a0 hw _ x1 b2) 0 (by decide) (by decide) e2 (pc := 7) (Ls := #[.val (.ref a1), .val (.ref x1), .unset]) (st := [(.ref b2), (.ref x1)]) (by rw [hml]; rfl) pd_3 rfl rfl (Nat.le_of_eq rfl) (hb hby d10_7) (by decide) (by decide) ?_
  intro v6 T6 X6 e6 hv6
  subst hv6
  show Gl p e below _ (T6.setTop (mkF m 10 #[.val (.ref a1), .val (.ref x1), .unset] [(.ref x1)]))
  refine Gl.of (fun _ kq_ => XS.pop X6.here hx rfl (hb hby d10_10) rfl rfl kq_) ?_
  show Gl p e below _ (T6.setTop (mkF m 11 #[.val (.ref a1), .val (.ref x1), .unset] []))
  refine Gl.of (fun _ kq_ => XS.aloadN X6.here hx rfl (hb hby d10_11) rfl rfl kq_) ?_
  show Gl p e below _ (T6.setTop (mkF m 12 #[.val (.ref a1), .val (.ref x1), .unset] [(.ref x1)]))
  refine Gl.callVB X6 hx hZ (y := (⟨"java/lang/String", "isEmpty", "()Z"⟩ : MethodName)) (z := (⟨"java/lang/String", "isEmpty", "()Z"⟩ : MethodName)) hown (w60 hw) (w61 hw) (notFace_of_selects (args := #[]) (mvT hZ (w63 hw))) (w63 hw) (w62 hw) (desc_ne (by decide)) (W := 0) (fun v => v = some (.int (0 : Int32))) (b := x1) (argsL := []) (rest := []) gc5.1 (StrChars.Road.empW (W := 0) hZ (own_wem hw) (kI := 4) (w12 hw) gc5.1 gc5.2.1 gc5.2.2.1 gc5.2.2.2.1 gc5.cod gc5.up gc5.2.2.2.2.2 (by decide) (by decide)) (by decide) (by decide) e6 (pc := 12) (Ls := #[.val (.ref a1), .val (.ref x1), .unset]) (st := [(.ref x1)]) (by rw [hml]; rfl) pd_4 rfl rfl (Nat.le_of_eq rfl) (hb hby d10_12) ?_
  intro v7 T7 X7 e7 hv7
  subst hv7
  show Gl p e below _ (T7.setTop (mkF m 15 #[.val (.ref a1), .val (.ref x1), .unset] [(.int (0 : Int32))]))
  refine Gl.of (fun _ kq_ => XS.ifYes X7.here hx rfl (pc0 := 15) (pc' := 25) rfl (hb hby d10_15) rfl ((if0 _ _).trans (teq (by decide : (0 : Int32) = (0 : Int32))).1) (by decide) (by decide) kq_) ?_
  show Gl p e below _ (T7.setTop (mkF m 25 #[.val (.ref a1), .val (.ref x1), .unset] []))
  refine Gl.of (fun _ kq_ => XS.aloadN X7.here hx rfl (hb hby d10_25) rfl rfl kq_) ?_
  show Gl p e below _ (T7.setTop (mkF m 26 #[.val (.ref a1), .val (.ref x1), .unset] [(.ref x1)]))
  refine Gl.callVB X7 hx hZ (y := (⟨"java/lang/String", "length", "()I"⟩ : MethodName)) (z := (⟨"java/lang/String", "length", "()I"⟩ : MethodName)) hown (w65 hw) (w66 hw) (notFace_of_selects (args := #[]) (mvT hZ (w68 hw))) (w68 hw) (w67 hw) (desc_ne (by decide)) (W := 0) (fun v => v = some (.int (1 : Int32))) (b := x1) (argsL := []) (rest := []) gc5.1 (StrChars.Road.lenW (W := 0) hZ (own_wln hw) (kI := 4) (w12 hw) gc5.1 gc5.2.1 gc5.2.2.1 gc5.2.2.2.1 gc5.cod gc5.up (SC.ext O2.2) hcz gc5.2.2.2.2.2 (by decide) (by decide)) (by decide) (by decide) e7 (pc := 26) (Ls := #[.val (.ref a1), .val (.ref x1), .unset]) (st := [(.ref x1)]) (by rw [hml]; rfl) pd_5 rfl rfl (Nat.le_of_eq rfl) (hb hby d10_26) ?_
  intro v8 T8 X8 e8 hv8
  subst hv8
  show Gl p e below _ (T8.setTop (mkF m 29 #[.val (.ref a1), .val (.ref x1), .unset] [(.int (1 : Int32))]))
  refine Gl.of (fun _ kq_ => XS.bipush X8.here hx rfl (hb hby d10_29) kq_) ?_
  show Gl p e below _ (T8.setTop (mkF m 31 #[.val (.ref a1), .val (.ref x1), .unset] [(.int (63 : Int32)), (.int (1 : Int32))]))
  refine Gl.of (fun _ kq_ => XS.icmpYes X8.here hx rfl (pc0 := 31) (pc' := 48) rfl (hb hby d10_31) rfl (flt (by decide : ¬ ((63 : Int32) < (1 : Int32)))).2.2.2 (by decide) (by decide) kq_) ?_
  show Gl p e below _ (T8.setTop (mkF m 48 #[.val (.ref a1), .val (.ref x1), .unset] []))
  refine Gl.of (fun _ kq_ => XS.aloadN X8.here hx rfl (hb hby d10_48) rfl rfl kq_) ?_
  show Gl p e below _ (T8.setTop (mkF m 49 #[.val (.ref a1), .val (.ref x1), .unset] [(.ref x1)]))
  refine Gl.of (fun _ kq_ => XS.iconst X8.here hx rfl (hb hby d10_49) kq_) ?_
  show Gl p e below _ (T8.setTop (mkF m 50 #[.val (.ref a1), .val (.ref x1), .unset] [(.int (0 : Int32)), (.ref x1)]))
  refine Gl.callVB X8 hx hZ (y := (⟨"java/lang/String", "charAt", "(I)C"⟩ : MethodName)) (z := (⟨"java/lang/String", "charAt", "(I)C"⟩ : MethodName)) hown (w75 hw) (w76 hw) (notFace_of_selects (args := #[]) (mvT hZ (w78 hw))) (w78 hw) (w77 hw) (desc_ne (by decide)) (W := 0) (fun v => v = some (.int c0)) (b := x1) (argsL := [(.int (0 : Int32))]) (rest := []) gc5.1 (StrChars.Road.chN (W := 0) hZ (own_wch hw) (kI := 4) (w12 hw) gc5.1 gc5.2.1 gc5.2.2.1 gc5.2.2.2.1 gc5.cod gc5.up (SC.ext O2.2) hcz (SF.ext O2.2) rf gc5.2.2.2.2.2 (i := 0) (Nat.le_of_ble_eq_true rfl) (j := (0 : Int32)) rfl (by decide) (by decide)) (by decide) (by decide) e8 (pc := 50) (Ls := #[.val (.ref a1), .val (.ref x1), .unset]) (st := [(.int (0 : Int32)), (.ref x1)]) (by rw [hml]; rfl) pd_6 rfl rfl (Nat.le_of_eq rfl) (hb hby d10_50) ?_
  intro v9 T9 X9 e9 hv9
  subst hv9
  show Gl p e below _ (T9.setTop (mkF m 53 #[.val (.ref a1), .val (.ref x1), .unset] [(.int c0)]))
  refine Gl.callS0 X9 hx hZ (y := (⟨"com/example/schenley/schenley/Identifier", "isDigit", "(C)Z"⟩ : MethodName)) hown (w97 hw) (w98 hw) (w43 hw) (w99 hw) (desc_ne (by decide)) (argsL := [(.int c0)]) (rest := []) (rmD l Z a0 hw _ c0) 0 (by decide) (by decide) e9 (pc := 53) (Ls := #[.val (.ref a1), .val (.ref x1), .unset]) (st := [(.int c0)]) (by rw [hml]; rfl) pd_0 rfl rfl (Nat.le_of_eq rfl) (hb hby d10_53) (by decide) (by decide) ?_
  intro v10 T10 X10 e10 hv10
  subst hv10
  show Gl p e below _ (T10.setTop (mkF m 56 #[.val (.ref a1), .val (.ref x1), .unset] [(.int (own_dig c0))]))
  refine Gl.of (fun _ kq_ => XS.ifYes X10.here hx rfl (pc0 := 56) (pc' := 66) rfl (hb hby d10_56) rfl ((if0 _ _).trans (teq (own_d0 h0')).1) (by decide) (by decide) kq_) ?_
  show Gl p e below _ (T10.setTop (mkF m 66 #[.val (.ref a1), .val (.ref x1), .unset] []))
  refine Gl.of (fun _ kq_ => XS.iconst X10.here hx rfl (hb hby d10_66) kq_) ?_
  show Gl p e below _ (T10.setTop (mkF m 67 #[.val (.ref a1), .val (.ref x1), .unset] [(.int (0 : Int32))]))
  refine Gl.of (fun _ kq_ => XS.istoreN X10.here hx rfl (hb hby d10_67) rfl (l' := #[.val (.ref a1), .val (.ref x1), .val (.int (0 : Int32))]) rfl kq_) ?_
  show Gl p e below _ (T10.setTop (mkF m 68 #[.val (.ref a1), .val (.ref x1), .val (.int (0 : Int32))] []))
  refine Gl.of (fun _ kq_ => XS.iloadN X10.here hx rfl (hb hby d10_68) rfl kq_) ?_
  show Gl p e below _ (T10.setTop (mkF m 69 #[.val (.ref a1), .val (.ref x1), .val (.int (0 : Int32))] [(.int (0 : Int32))]))
  refine Gl.of (fun _ kq_ => XS.aloadN X10.here hx rfl (hb hby d10_69) rfl rfl kq_) ?_
  show Gl p e below _ (T10.setTop (mkF m 70 #[.val (.ref a1), .val (.ref x1), .val (.int (0 : Int32))] [(.ref x1), (.int (0 : Int32))]))
  refine Gl.callVB X10 hx hZ (y := (⟨"java/lang/String", "length", "()I"⟩ : MethodName)) (z := (⟨"java/lang/String", "length", "()I"⟩ : MethodName)) hown (w65 hw) (w66 hw) (notFace_of_selects (args := #[]) (mvT hZ (w68 hw))) (w68 hw) (w67 hw) (desc_ne (by decide)) (W := 1) (fun v => v = some (.int (1 : Int32))) (b := x1) (argsL := []) (rest := [(.int (0 : Int32))]) gc5.1 (StrChars.Road.lenW (W := 1) hZ (own_wln hw) (kI := 4) (w12 hw) gc5.1 gc5.2.1 gc5.2.2.1 gc5.2.2.2.1 gc5.cod gc5.up (SC.ext O2.2) hcz gc5.2.2.2.2.2 (by decide) (by decide)) (by decide) (by decide) e10 (pc := 70) (Ls := #[.val (.ref a1), .val (.ref x1), .val (.int (0 : Int32))]) (st := [(.ref x1), (.int (0 : Int32))]) (by rw [hml]; rfl) pd_5 rfl rfl (Nat.le_of_eq rfl) (hb hby d10_70) ?_
  intro v11 T11 X11 e11 hv11
  subst hv11
  show Gl p e below _ (T11.setTop (mkF m 73 #[.val (.ref a1), .val (.ref x1), .val (.int (0 : Int32))] [(.int (1 : Int32)), (.int (0 : Int32))]))
  refine Gl.of (fun _ kq_ => XS.icmpNo X11.here hx rfl (hb hby d10_73) rfl (tlt (by decide : (0 : Int32) < (1 : Int32))).2.1 kq_) ?_
  show Gl p e below _ (T11.setTop (mkF m 76 #[.val (.ref a1), .val (.ref x1), .val (.int (0 : Int32))] []))
  refine Gl.of (fun _ kq_ => XS.aloadN X11.here hx rfl (hb hby d10_76) rfl rfl kq_) ?_
  show Gl p e below _ (T11.setTop (mkF m 77 #[.val (.ref a1), .val (.ref x1), .val (.int (0 : Int32))] [(.ref x1)]))
  refine Gl.of (fun _ kq_ => XS.iloadN X11.here hx rfl (hb hby d10_77) rfl kq_) ?_
  show Gl p e below _ (T11.setTop (mkF m 78 #[.val (.ref a1), .val (.ref x1), .val (.int (0 : Int32))] [(.int (0 : Int32)), (.ref x1)]))
  refine Gl.callVB X11 hx hZ (y := (⟨"java/lang/String", "charAt", "(I)C"⟩ : MethodName)) (z := (⟨"java/lang/String", "charAt", "(I)C"⟩ : MethodName)) hown (w75 hw) (w76 hw) (notFace_of_selects (args := #[]) (mvT hZ (w78 hw))) (w78 hw) (w77 hw) (desc_ne (by decide)) (W := 0) (fun v => v = some (.int c0)) (b := x1) (argsL := [(.int (0 : Int32))]) (rest := []) gc5.1 (StrChars.Road.chN (W := 0) hZ (own_wch hw) (kI := 4) (w12 hw) gc5.1 gc5.2.1 gc5.2.2.1 gc5.2.2.2.1 gc5.cod gc5.up (SC.ext O2.2) hcz (SF.ext O2.2) rf gc5.2.2.2.2.2 (i := 0) (Nat.le_of_ble_eq_true rfl) (j := (0 : Int32)) rfl (by decide) (by decide)) (by decide) (by decide) e11 (pc := 78) (Ls := #[.val (.ref a1), .val (.ref x1), .val (.int (0 : Int32))]) (st := [(.int (0 : Int32)), (.ref x1)]) (by rw [hml]; rfl) pd_6 rfl rfl (Nat.le_of_eq rfl) (hb hby d10_78) ?_
  intro v12 T12 X12 e12 hv12
  subst hv12
  show Gl p e below _ (T12.setTop (mkF m 81 #[.val (.ref a1), .val (.ref x1), .val (.int (0 : Int32))] [(.int c0)]))
  refine Gl.callS0 X12 hx hZ (y := (⟨"com/example/schenley/schenley/Identifier", "isPlain", "(C)Z"⟩ : MethodName)) hown (w100 hw) (w101 hw) (w43 hw) (w102 hw) (desc_ne (by decide)) (argsL := [(.int c0)]) (rest := []) (rmP l Z a0 hw _ c0) 0 (by decide) (by decide) e12 (pc := 81) (Ls := #[.val (.ref a1), .val (.ref x1), .val (.int (0 : Int32))]) (st := [(.int c0)]) (by rw [hml]; rfl) pd_0 rfl rfl (Nat.le_of_eq rfl) (hb hby d10_81) (by decide) (by decide) ?_
  intro v13 T13 X13 e13 hv13
  subst hv13
  show Gl p e below _ (T13.setTop (mkF m 84 #[.val (.ref a1), .val (.ref x1), .val (.int (0 : Int32))] [(.int (own_pln c0))]))
  refine Gl.of (fun _ kq_ => XS.ifYes X13.here hx rfl (pc0 := 84) (pc' := 106) rfl (hb hby d10_84) rfl ((if0 _ _).trans (feq (own_p1 (own_fa h0'))).2) (by decide) (by decide) kq_) ?_
  show Gl p e below _ (T13.setTop (mkF m 106 #[.val (.ref a1), .val (.ref x1), .val (.int (0 : Int32))] []))
  refine Gl.of (fun _ kq_ => XS.iinc X13.here hx rfl (hb hby d10_106) rfl (l' := #[.val (.ref a1), .val (.ref x1), .val (.int (1 : Int32))]) rfl kq_) ?_
  show Gl p e below _ (T13.setTop (mkF m 109 #[.val (.ref a1), .val (.ref x1), .val (.int (1 : Int32))] []))
  refine Gl.of (fun _ kq_ => XS.goto X13.here hx rfl (pc0 := 109) (pc' := 68) rfl (hb hby d10_109) (by decide) (by decide) kq_) ?_
  show Gl p e below _ (T13.setTop (mkF m 68 #[.val (.ref a1), .val (.ref x1), .val (.int (1 : Int32))] []))
  refine Gl.of (fun _ kq_ => XS.iloadN X13.here hx rfl (hb hby d10_68) rfl kq_) ?_
  show Gl p e below _ (T13.setTop (mkF m 69 #[.val (.ref a1), .val (.ref x1), .val (.int (1 : Int32))] [(.int (1 : Int32))]))
  refine Gl.of (fun _ kq_ => XS.aloadN X13.here hx rfl (hb hby d10_69) rfl rfl kq_) ?_
  show Gl p e below _ (T13.setTop (mkF m 70 #[.val (.ref a1), .val (.ref x1), .val (.int (1 : Int32))] [(.ref x1), (.int (1 : Int32))]))
  refine Gl.callVB X13 hx hZ (y := (⟨"java/lang/String", "length", "()I"⟩ : MethodName)) (z := (⟨"java/lang/String", "length", "()I"⟩ : MethodName)) hown (w65 hw) (w66 hw) (notFace_of_selects (args := #[]) (mvT hZ (w68 hw))) (w68 hw) (w67 hw) (desc_ne (by decide)) (W := 1) (fun v => v = some (.int (1 : Int32))) (b := x1) (argsL := []) (rest := [(.int (1 : Int32))]) gc5.1 (StrChars.Road.lenW (W := 1) hZ (own_wln hw) (kI := 4) (w12 hw) gc5.1 gc5.2.1 gc5.2.2.1 gc5.2.2.2.1 gc5.cod gc5.up (SC.ext O2.2) hcz gc5.2.2.2.2.2 (by decide) (by decide)) (by decide) (by decide) e13 (pc := 70) (Ls := #[.val (.ref a1), .val (.ref x1), .val (.int (1 : Int32))]) (st := [(.ref x1), (.int (1 : Int32))]) (by rw [hml]; rfl) pd_5 rfl rfl (Nat.le_of_eq rfl) (hb hby d10_70) ?_
  intro v14 T14 X14 e14 hv14
  subst hv14
  show Gl p e below _ (T14.setTop (mkF m 73 #[.val (.ref a1), .val (.ref x1), .val (.int (1 : Int32))] [(.int (1 : Int32)), (.int (1 : Int32))]))
  refine Gl.of (fun _ kq_ => XS.icmpYes X14.here hx rfl (pc0 := 73) (pc' := 112) rfl (hb hby d10_73) rfl (flt (by decide : ¬ ((1 : Int32) < (1 : Int32)))).2.1 (by decide) (by decide) kq_) ?_
  show Gl p e below _ (T14.setTop (mkF m 112 #[.val (.ref a1), .val (.ref x1), .val (.int (1 : Int32))] []))
  refine Gl.of (fun _ kq_ => XS.aloadN X14.here hx rfl (hb hby d10_112) rfl rfl kq_) ?_
  show Gl p e below _ (T14.setTop (mkF m 113 #[.val (.ref a1), .val (.ref x1), .val (.int (1 : Int32))] [(.ref a1)]))
  refine Gl.of (fun _ kq_ => XS.aloadN X14.here hx rfl (hb hby d10_113) rfl rfl kq_) ?_
  show Gl p e below _ (T14.setTop (mkF m 114 #[.val (.ref a1), .val (.ref x1), .val (.int (1 : Int32))] [(.ref x1), (.ref a1)]))
  obtain ⟨T15, h15, X15, e15, W15, st15⟩ := putF X14 hx hZ hown (host := "") (Or.inl (w103 hw)) Via.refl e14 fc4 ec3 (Or.inr ⟨(w104 hw), rfl, hnm⟩) (w42 hw) (ty := (.object "java/lang/String")) (by decide) rfl rfl (g := (mkF m 114 #[.val (.ref a1), .val (.ref x1), .val (.int (1 : Int32))] [(.ref x1), (.ref a1)])) rfl rfl (hb hby d10_114)
  refine Gl.of st15 ?_
  have F15 : Fld Z h15 a1 "com/example/schenley/schenley/Identifier" "name" "Ljava/lang/String;" (.ref x1) := fc4.same W15
  have ec16 := ec3.wr W15
  have gc17 := gc5.wr W15 hn1 hn2
  have N15 := Fr.snoc X15 (Fr.nil n0) Ga1
  have O15 := O2.wr W15 Ga1
  have K15 := K2.wr W15 (Or.inl (List.mem_of_getElem? (i := 0) rfl))
  have hk15 := Nat.le_trans hk2 (Keep.of_wr W15).1
  show Gl p e below _ (T15.setTop (mkF m 117 #[.val (.ref a1), .val (.ref x1), .val (.int (1 : Int32))] []))
  exact Gl.ret0W X15 hx hlk hret (hb hby d10_117) e15 (⟨rfl, N15, K15, F15⟩) hS2 hk15 (by decide) (by decide)
theorem ef_9 (m : MethodId) (x0 : Addr) (x1 : Addr) : entryFrame m #[(.ref x0), (.ref x1)] 3 = mkF m 0 #[.val (.ref x0), .val (.ref x1), .unset] [] := by first | (simp [entryFrame, mkF, argsToLocals, Value.category, maxLocals]; done) | rfl
set_option maxRecDepth 65536 in
set_option maxHeartbeats 40000000 in
theorem rmI2 (l : Launch) (Z : State) (a0 : Array Value) (hw : ∀ d ∈ tables_1, d.before a0 Z = true) (h0 : Heap) (a1 x1 t1 : Addr) (kb1 : ClassId) (c0 c1 : Int32) (cz : Int32) (fm : Value) (n0 : Nat) (h0' : own_fst c0) (h1' : own_any c1) (E1 : Exa Z h0 a1 "com/example/schenley/schenley/Identifier") (I1 : Fld Z h0 a1 "com/example/schenley/schenley/Identifier" "name" "Ljava/lang/String;" .null) (Ga1 : n0 ≤ a1) (SN : Strg Z h0 x1 t1 kb1 [c0, c1]) (hn1 : x1 ≠ a1) (hn2 : t1 ≠ a1) (SC : Sta Z Z.heap "java/lang/String" "COMPACT_STRINGS" "Z" (.int cz)) (hcz : ¬ cz = 0) (SF : Sta Z Z.heap "jdk/internal/util/Preconditions" "SIOOBE_FORMATTER" "Ljava/util/function/BiFunction;" fm) (rf : fm.isRef = true) (O0 : Old Z n0 h0) : ConW l Z (⟨"com/example/schenley/schenley/Identifier", "<init>", "(Ljava/lang/String;)V"⟩ : MethodName) prog_10_method_1_code 3 none [] ({ frames := 4, cells := 2, slots := 20, locals := 53 } : Room) 2 20 #[(.ref a1), (.ref x1)] h0 (fun v h L => v = none ∧ Fr n0 L ∧ Keep h0 h [a1] ∧ Fld Z h a1 "com/example/schenley/schenley/Identifier" "name" "Ljava/lang/String;" (.ref x1)) := by
  refine ConW.intro (plainFor_of_name pn_1) ?_
  intro p e s m below meth c s₁ X0 hx hby hml hZ hown hnm hret hlk e0 hs0
  refine Gl.of (fun _ kq_ => castTop (ef_9 m a1 x1) kq_) ?_
  have hS0 := (State.WarmedH.refl s).since 0
  have hk0 : 0 ≤ h0.size := Nat.zero_le _
  have K0 := Keep.refl h0 [a1]
  show Gl p e below _ (s₁.setTop (mkF m 0 #[.val (.ref a1), .val (.ref x1), .unset] []))
  refine Gl.of (fun _ kq_ => XS.aloadN X0.here hx rfl (hb hby d10_0) rfl rfl kq_) ?_
  show Gl p e below _ (s₁.setTop (mkF m 1 #[.val (.ref a1), .val (.ref x1), .unset] [(.ref a1)]))
  refine Gl.callI0 X0 hx hZ (y := (⟨"java/lang/Record", "<init>", "()V"⟩ : MethodName)) rfl hown (w47 hw) (w48 hw) (w50 hw) (w51 hw) (desc_ne (by decide)) (b := a1) (argsL := []) (rest := []) (rmR l Z a0 hw _ a1) 0 (by decide) (by decide) e0 (pc := 1) (Ls := #[.val (.ref a1), .val (.ref x1), .unset]) (st := [(.ref a1)]) (by rw [hml]; rfl) pd_2 rfl rfl (Nat.le_of_eq rfl) (hb hby d10_1) (by decide) (by decide) ?_
  intro v1 T1 X1 e1 hv1
  subst hv1
  show Gl p e below _ (T1.setTop (mkF m 4 #[.val (.ref a1), .val (.ref x1), .unset] []))
  refine Gl.of (fun _ kq_ => XS.aloadN X1.here hx rfl (hb hby d10_4) rfl rfl kq_) ?_
  show Gl p e below _ (T1.setTop (mkF m 5 #[.val (.ref a1), .val (.ref x1), .unset] [(.ref x1)]))
  obtain ⟨b2, T2, h2, k2, X2, e2, E2, hS2, hk2, hZ, hown, st2⟩ := ldcS X1 hx hZ hown (w53 hw) (own_str hw) e1 hS0 hk0 (g := (mkF m 5 #[.val (.ref a1), .val (.ref x1), .unset] [(.ref x1)])) rfl (hb hby d10_5) (n := 16) (by decide) (by decide) (by decide) (by decide)
  refine Gl.of st2 ?_
  have ec3 := E1.ext E2
  have fc4 := I1.ext E2
  have gc5 := SN.ext E2
  have O2 := O0.ext E2
  have K2 := K0.ext E2
  show Gl p e below _ (T2.setTop (mkF m 7 #[.val (.ref a1), .val (.ref x1), .unset] [(.ref b2), (.ref x1)]))
  refine Gl.callS0 X2 hx hZ (y := (⟨"java/util/Objects", "requireNonNull", "(Ljava/lang/Object;Ljava/lang/String;)Ljava/lang/Object;"⟩ : MethodName)) hown (w56 hw) (w57 hw) (w58 hw) (w59 hw) (desc_ne (by decide)) (argsL := [(.ref x1), (.ref b2)]) (rest := []) (rmN l Z a0 hw _ x1 b2) 0 (by decide) (by decide) e2 (pc := 7) (Ls := #[.val (.ref a1), .val (.ref x1), .unset]) (st := [(.ref b2), (.ref x1)]) (by rw [hml]; rfl) pd_3 rfl rfl (Nat.le_of_eq rfl) (hb hby d10_7) (by decide) (by decide) ?_
  intro v6 T6 X6 e6 hv6
  subst hv6
  show Gl p e below _ (T6.setTop (mkF m 10 #[.val (.ref a1), .val (.ref x1), .unset] [(.ref x1)]))
  refine Gl.of (fun _ kq_ => XS.pop X6.here hx rfl (hb hby d10_10) rfl rfl kq_) ?_
  show Gl p e below _ (T6.setTop (mkF m 11 #[.val (.ref a1), .val (.ref x1), .unset] []))
  refine Gl.of (fun _ kq_ => XS.aloadN X6.here hx rfl (hb hby d10_11) rfl rfl kq_) ?_
  show Gl p e below _ (T6.setTop (mkF m 12 #[.val (.ref a1), .val (.ref x1), .unset] [(.ref x1)]))
  refine Gl.callVB X6 hx hZ (y := (⟨"java/lang/String", "isEmpty", "()Z"⟩ : MethodName)) (z := (⟨"java/lang/String", "isEmpty", "()Z"⟩ : MethodName)) hown (w60 hw) (w61 hw) (notFace_of_selects (args := #[]) (mvT hZ (w63 hw))) (w63 hw) (w62 hw) (desc_ne (by decide)) (W := 0) (fun v => v = some (.int (0 : Int32))) (b := x1) (argsL := []) (rest := []) gc5.1 (StrChars.Road.empW (W := 0) hZ (own_wem hw) (kI := 4) (w12 hw) gc5.1 gc5.2.1 gc5.2.2.1 gc5.2.2.2.1 gc5.cod gc5.up gc5.2.2.2.2.2 (by decide) (by decide)) (by decide) (by decide) e6 (pc := 12) (Ls := #[.val (.ref a1), .val (.ref x1), .unset]) (st := [(.ref x1)]) (by rw [hml]; rfl) pd_4 rfl rfl (Nat.le_of_eq rfl) (hb hby d10_12) ?_
  intro v7 T7 X7 e7 hv7
  subst hv7
  show Gl p e below _ (T7.setTop (mkF m 15 #[.val (.ref a1), .val (.ref x1), .unset] [(.int (0 : Int32))]))
  refine Gl.of (fun _ kq_ => XS.ifYes X7.here hx rfl (pc0 := 15) (pc' := 25) rfl (hb hby d10_15) rfl ((if0 _ _).trans (teq (by decide : (0 : Int32) = (0 : Int32))).1) (by decide) (by decide) kq_) ?_
  show Gl p e below _ (T7.setTop (mkF m 25 #[.val (.ref a1), .val (.ref x1), .unset] []))
  refine Gl.of (fun _ kq_ => XS.aloadN X7.here hx rfl (hb hby d10_25) rfl rfl kq_) ?_
  show Gl p e below _ (T7.setTop (mkF m 26 #[.val (.ref a1), .val (.ref x1), .unset] [(.ref x1)]))
  refine Gl.callVB X7 hx hZ (y := (⟨"java/lang/String", "length", "()I"⟩ : MethodName)) (z := (⟨"java/lang/String", "length", "()I"⟩ : MethodName)) hown (w65 hw) (w66 hw) (notFace_of_selects (args := #[]) (mvT hZ (w68 hw))) (w68 hw) (w67 hw) (desc_ne (by decide)) (W := 0) (fun v => v = some (.int (2 : Int32))) (b := x1) (argsL := []) (rest := []) gc5.1 (StrChars.Road.lenW (W := 0) hZ (own_wln hw) (kI := 4) (w12 hw) gc5.1 gc5.2.1 gc5.2.2.1 gc5.2.2.2.1 gc5.cod gc5.up (SC.ext O2.2) hcz gc5.2.2.2.2.2 (by decide) (by decide)) (by decide) (by decide) e7 (pc := 26) (Ls := #[.val (.ref a1), .val (.ref x1), .unset]) (st := [(.ref x1)]) (by rw [hml]; rfl) pd_5 rfl rfl (Nat.le_of_eq rfl) (hb hby d10_26) ?_
  intro v8 T8 X8 e8 hv8
  subst hv8
  show Gl p e below _ (T8.setTop (mkF m 29 #[.val (.ref a1), .val (.ref x1), .unset] [(.int (2 : Int32))]))
  refine Gl.of (fun _ kq_ => XS.bipush X8.here hx rfl (hb hby d10_29) kq_) ?_
  show Gl p e below _ (T8.setTop (mkF m 31 #[.val (.ref a1), .val (.ref x1), .unset] [(.int (63 : Int32)), (.int (2 : Int32))]))
  refine Gl.of (fun _ kq_ => XS.icmpYes X8.here hx rfl (pc0 := 31) (pc' := 48) rfl (hb hby d10_31) rfl (flt (by decide : ¬ ((63 : Int32) < (2 : Int32)))).2.2.2 (by decide) (by decide) kq_) ?_
  show Gl p e below _ (T8.setTop (mkF m 48 #[.val (.ref a1), .val (.ref x1), .unset] []))
  refine Gl.of (fun _ kq_ => XS.aloadN X8.here hx rfl (hb hby d10_48) rfl rfl kq_) ?_
  show Gl p e below _ (T8.setTop (mkF m 49 #[.val (.ref a1), .val (.ref x1), .unset] [(.ref x1)]))
  refine Gl.of (fun _ kq_ => XS.iconst X8.here hx rfl (hb hby d10_49) kq_) ?_
  show Gl p e below _ (T8.setTop (mkF m 50 #[.val (.ref a1), .val (.ref x1), .unset] [(.int (0 : Int32)), (.ref x1)]))
  refine Gl.callVB X8 hx hZ (y := (⟨"java/lang/String", "charAt", "(I)C"⟩ : MethodName)) (z := (⟨"java/lang/String", "charAt", "(I)C"⟩ : MethodName)) hown (w75 hw) (w76 hw) (notFace_of_selects (args := #[]) (mvT hZ (w78 hw))) (w78 hw) (w77 hw) (desc_ne (by decide)) (W := 0) (fun v => v = some (.int c0)) (b := x1) (argsL := [(.int (0 : Int32))]) (rest := []) gc5.1 (StrChars.Road.chN (W := 0) hZ (own_wch hw) (kI := 4) (w12 hw) gc5.1 gc5.2.1 gc5.2.2.1 gc5.2.2.2.1 gc5.cod gc5.up (SC.ext O2.2) hcz (SF.ext O2.2) rf gc5.2.2.2.2.2 (i := 0) (Nat.le_of_ble_eq_true rfl) (j := (0 : Int32)) rfl (by decide) (by decide)) (by decide) (by decide) e8 (pc := 50) (Ls := #[.val (.ref a1), .val (.ref x1), .unset]) (st := [(.int (0 : Int32)), (.ref x1)]) (by rw [hml]; rfl) pd_6 rfl rfl (Nat.le_of_eq rfl) (hb hby d10_50) ?_
  intro v9 T9 X9 e9 hv9
  subst hv9
  show Gl p e below _ (T9.setTop (mkF m 53 #[.val (.ref a1), .val (.ref x1), .unset] [(.int c0)]))
  refine Gl.callS0 X9 hx hZ (y := (⟨"com/example/schenley/schenley/Identifier", "isDigit", "(C)Z"⟩ : MethodName)) hown (w97 hw) (w98 hw) (w43 hw) (w99 hw) (desc_ne (by decide)) (argsL := [(.int c0)]) (rest := []) (rmD l Z a0 hw _ c0) 0 (by decide) (by decide) e9 (pc := 53) (Ls := #[.val (.ref a1), .val (.ref x1), .unset]) (st := [(.int c0)]) (by rw [hml]; rfl) pd_0 rfl rfl (Nat.le_of_eq rfl) (hb hby d10_53) (by decide) (by decide) ?_
  intro v10 T10 X10 e10 hv10
  subst hv10
  show Gl p e below _ (T10.setTop (mkF m 56 #[.val (.ref a1), .val (.ref x1), .unset] [(.int (own_dig c0))]))
  refine Gl.of (fun _ kq_ => XS.ifYes X10.here hx rfl (pc0 := 56) (pc' := 66) rfl (hb hby d10_56) rfl ((if0 _ _).trans (teq (own_d0 h0')).1) (by decide) (by decide) kq_) ?_
  show Gl p e below _ (T10.setTop (mkF m 66 #[.val (.ref a1), .val (.ref x1), .unset] []))
  refine Gl.of (fun _ kq_ => XS.iconst X10.here hx rfl (hb hby d10_66) kq_) ?_
  show Gl p e below _ (T10.setTop (mkF m 67 #[.val (.ref a1), .val (.ref x1), .unset] [(.int (0 : Int32))]))
  refine Gl.of (fun _ kq_ => XS.istoreN X10.here hx rfl (hb hby d10_67) rfl (l' := #[.val (.ref a1), .val (.ref x1), .val (.int (0 : Int32))]) rfl kq_) ?_
  show Gl p e below _ (T10.setTop (mkF m 68 #[.val (.ref a1), .val (.ref x1), .val (.int (0 : Int32))] []))
  refine Gl.of (fun _ kq_ => XS.iloadN X10.here hx rfl (hb hby d10_68) rfl kq_) ?_
  show Gl p e below _ (T10.setTop (mkF m 69 #[.val (.ref a1), .val (.ref x1), .val (.int (0 : Int32))] [(.int (0 : Int32))]))
  refine Gl.of (fun _ kq_ => XS.aloadN X10.here hx rfl (hb hby d10_69) rfl rfl kq_) ?_
  show Gl p e below _ (T10.setTop (mkF m 70 #[.val (.ref a1), .val (.ref x1), .val (.int (0 : Int32))] [(.ref x1), (.int (0 : Int32))]))
  refine Gl.callVB X10 hx hZ (y := (⟨"java/lang/String", "length", "()I"⟩ : MethodName)) (z := (⟨"java/lang/String", "length", "()I"⟩ : MethodName)) hown (w65 hw) (w66 hw) (notFace_of_selects (args := #[]) (mvT hZ (w68 hw))) (w68 hw) (w67 hw) (desc_ne (by decide)) (W := 1) (fun v => v = some (.int (2 : Int32))) (b := x1) (argsL := []) (rest := [(.int (0 : Int32))]) gc5.1 (StrChars.Road.lenW (W := 1) hZ (own_wln hw) (kI := 4) (w12 hw) gc5.1 gc5.2.1 gc5.2.2.1 gc5.2.2.2.1 gc5.cod gc5.up (SC.ext O2.2) hcz gc5.2.2.2.2.2 (by decide) (by decide)) (by decide) (by decide) e10 (pc := 70) (Ls := #[.val (.ref a1), .val (.ref x1), .val (.int (0 : Int32))]) (st := [(.ref x1), (.int (0 : Int32))]) (by rw [hml]; rfl) pd_5 rfl rfl (Nat.le_of_eq rfl) (hb hby d10_70) ?_
  intro v11 T11 X11 e11 hv11
  subst hv11
  show Gl p e below _ (T11.setTop (mkF m 73 #[.val (.ref a1), .val (.ref x1), .val (.int (0 : Int32))] [(.int (2 : Int32)), (.int (0 : Int32))]))
  refine Gl.of (fun _ kq_ => XS.icmpNo X11.here hx rfl (hb hby d10_73) rfl (tlt (by decide : (0 : Int32) < (2 : Int32))).2.1 kq_) ?_
  show Gl p e below _ (T11.setTop (mkF m 76 #[.val (.ref a1), .val (.ref x1), .val (.int (0 : Int32))] []))
  refine Gl.of (fun _ kq_ => XS.aloadN X11.here hx rfl (hb hby d10_76) rfl rfl kq_) ?_
  show Gl p e below _ (T11.setTop (mkF m 77 #[.val (.ref a1), .val (.ref x1), .val (.int (0 : Int32))] [(.ref x1)]))
  refine Gl.of (fun _ kq_ => XS.iloadN X11.here hx rfl (hb hby d10_77) rfl kq_) ?_
  show Gl p e below _ (T11.setTop (mkF m 78 #[.val (.ref a1), .val (.ref x1), .val (.int (0 : Int32))] [(.int (0 : Int32)), (.ref x1)]))
  refine Gl.callVB X11 hx hZ (y := (⟨"java/lang/String", "charAt", "(I)C"⟩ : MethodName)) (z := (⟨"java/lang/String", "charAt", "(I)C"⟩ : MethodName)) hown (w75 hw) (w76 hw) (notFace_of_selects (args := #[]) (mvT hZ (w78 hw))) (w78 hw) (w77 hw) (desc_ne (by decide)) (W := 0) (fun v => v = some (.int c0)) (b := x1) (argsL := [(.int (0 : Int32))]) (rest := []) gc5.1 (StrChars.Road.chN (W := 0) hZ (own_wch hw) (kI := 4) (w12 hw) gc5.1 gc5.2.1 gc5.2.2.1 gc5.2.2.2.1 gc5.cod gc5.up (SC.ext O2.2) hcz (SF.ext O2.2) rf gc5.2.2.2.2.2 (i := 0) (Nat.le_of_ble_eq_true rfl) (j := (0 : Int32)) rfl (by decide) (by decide)) (by decide) (by decide) e11 (pc := 78) (Ls := #[.val (.ref a1), .val (.ref x1), .val (.int (0 : Int32))]) (st := [(.int (0 : Int32)), (.ref x1)]) (by rw [hml]; rfl) pd_6 rfl rfl (Nat.le_of_eq rfl) (hb hby d10_78) ?_
  intro v12 T12 X12 e12 hv12
  subst hv12
  show Gl p e below _ (T12.setTop (mkF m 81 #[.val (.ref a1), .val (.ref x1), .val (.int (0 : Int32))] [(.int c0)]))
  refine Gl.callS0 X12 hx hZ (y := (⟨"com/example/schenley/schenley/Identifier", "isPlain", "(C)Z"⟩ : MethodName)) hown (w100 hw) (w101 hw) (w43 hw) (w102 hw) (desc_ne (by decide)) (argsL := [(.int c0)]) (rest := []) (rmP l Z a0 hw _ c0) 0 (by decide) (by decide) e12 (pc := 81) (Ls := #[.val (.ref a1), .val (.ref x1), .val (.int (0 : Int32))]) (st := [(.int c0)]) (by rw [hml]; rfl) pd_0 rfl rfl (Nat.le_of_eq rfl) (hb hby d10_81) (by decide) (by decide) ?_
  intro v13 T13 X13 e13 hv13
  subst hv13
  show Gl p e below _ (T13.setTop (mkF m 84 #[.val (.ref a1), .val (.ref x1), .val (.int (0 : Int32))] [(.int (own_pln c0))]))
  refine Gl.of (fun _ kq_ => XS.ifYes X13.here hx rfl (pc0 := 84) (pc' := 106) rfl (hb hby d10_84) rfl ((if0 _ _).trans (feq (own_p1 (own_fa h0'))).2) (by decide) (by decide) kq_) ?_
  show Gl p e below _ (T13.setTop (mkF m 106 #[.val (.ref a1), .val (.ref x1), .val (.int (0 : Int32))] []))
  refine Gl.of (fun _ kq_ => XS.iinc X13.here hx rfl (hb hby d10_106) rfl (l' := #[.val (.ref a1), .val (.ref x1), .val (.int (1 : Int32))]) rfl kq_) ?_
  show Gl p e below _ (T13.setTop (mkF m 109 #[.val (.ref a1), .val (.ref x1), .val (.int (1 : Int32))] []))
  refine Gl.of (fun _ kq_ => XS.goto X13.here hx rfl (pc0 := 109) (pc' := 68) rfl (hb hby d10_109) (by decide) (by decide) kq_) ?_
  show Gl p e below _ (T13.setTop (mkF m 68 #[.val (.ref a1), .val (.ref x1), .val (.int (1 : Int32))] []))
  refine Gl.of (fun _ kq_ => XS.iloadN X13.here hx rfl (hb hby d10_68) rfl kq_) ?_
  show Gl p e below _ (T13.setTop (mkF m 69 #[.val (.ref a1), .val (.ref x1), .val (.int (1 : Int32))] [(.int (1 : Int32))]))
  refine Gl.of (fun _ kq_ => XS.aloadN X13.here hx rfl (hb hby d10_69) rfl rfl kq_) ?_
  show Gl p e below _ (T13.setTop (mkF m 70 #[.val (.ref a1), .val (.ref x1), .val (.int (1 : Int32))] [(.ref x1), (.int (1 : Int32))]))
  refine Gl.callVB X13 hx hZ (y := (⟨"java/lang/String", "length", "()I"⟩ : MethodName)) (z := (⟨"java/lang/String", "length", "()I"⟩ : MethodName)) hown (w65 hw) (w66 hw) (notFace_of_selects (args := #[]) (mvT hZ (w68 hw))) (w68 hw) (w67 hw) (desc_ne (by decide)) (W := 1) (fun v => v = some (.int (2 : Int32))) (b := x1) (argsL := []) (rest := [(.int (1 : Int32))]) gc5.1 (StrChars.Road.lenW (W := 1) hZ (own_wln hw) (kI := 4) (w12 hw) gc5.1 gc5.2.1 gc5.2.2.1 gc5.2.2.2.1 gc5.cod gc5.up (SC.ext O2.2) hcz gc5.2.2.2.2.2 (by decide) (by decide)) (by decide) (by decide) e13 (pc := 70) (Ls := #[.val (.ref a1), .val (.ref x1), .val (.int (1 : Int32))]) (st := [(.ref x1), (.int (1 : Int32))]) (by rw [hml]; rfl) pd_5 rfl rfl (Nat.le_of_eq rfl) (hb hby d10_70) ?_
  intro v14 T14 X14 e14 hv14
  subst hv14
  show Gl p e below _ (T14.setTop (mkF m 73 #[.val (.ref a1), .val (.ref x1), .val (.int (1 : Int32))] [(.int (2 : Int32)), (.int (1 : Int32))]))
  refine Gl.of (fun _ kq_ => XS.icmpNo X14.here hx rfl (hb hby d10_73) rfl (tlt (by decide : (1 : Int32) < (2 : Int32))).2.1 kq_) ?_
  show Gl p e below _ (T14.setTop (mkF m 76 #[.val (.ref a1), .val (.ref x1), .val (.int (1 : Int32))] []))
  refine Gl.of (fun _ kq_ => XS.aloadN X14.here hx rfl (hb hby d10_76) rfl rfl kq_) ?_
  show Gl p e below _ (T14.setTop (mkF m 77 #[.val (.ref a1), .val (.ref x1), .val (.int (1 : Int32))] [(.ref x1)]))
  refine Gl.of (fun _ kq_ => XS.iloadN X14.here hx rfl (hb hby d10_77) rfl kq_) ?_
  show Gl p e below _ (T14.setTop (mkF m 78 #[.val (.ref a1), .val (.ref x1), .val (.int (1 : Int32))] [(.int (1 : Int32)), (.ref x1)]))
  refine Gl.callVB X14 hx hZ (y := (⟨"java/lang/String", "charAt", "(I)C"⟩ : MethodName)) (z := (⟨"java/lang/String", "charAt", "(I)C"⟩ : MethodName)) hown (w75 hw) (w76 hw) (notFace_of_selects (args := #[]) (mvT hZ (w78 hw))) (w78 hw) (w77 hw) (desc_ne (by decide)) (W := 0) (fun v => v = some (.int c1)) (b := x1) (argsL := [(.int (1 : Int32))]) (rest := []) gc5.1 (StrChars.Road.chN (W := 0) hZ (own_wch hw) (kI := 4) (w12 hw) gc5.1 gc5.2.1 gc5.2.2.1 gc5.2.2.2.1 gc5.cod gc5.up (SC.ext O2.2) hcz (SF.ext O2.2) rf gc5.2.2.2.2.2 (i := 1) (Nat.le_of_ble_eq_true rfl) (j := (1 : Int32)) rfl (by decide) (by decide)) (by decide) (by decide) e14 (pc := 78) (Ls := #[.val (.ref a1), .val (.ref x1), .val (.int (1 : Int32))]) (st := [(.int (1 : Int32)), (.ref x1)]) (by rw [hml]; rfl) pd_6 rfl rfl (Nat.le_of_eq rfl) (hb hby d10_78) ?_
  intro v15 T15 X15 e15 hv15
  subst hv15
  show Gl p e below _ (T15.setTop (mkF m 81 #[.val (.ref a1), .val (.ref x1), .val (.int (1 : Int32))] [(.int c1)]))
  refine Gl.callS0 X15 hx hZ (y := (⟨"com/example/schenley/schenley/Identifier", "isPlain", "(C)Z"⟩ : MethodName)) hown (w100 hw) (w101 hw) (w43 hw) (w102 hw) (desc_ne (by decide)) (argsL := [(.int c1)]) (rest := []) (rmP l Z a0 hw _ c1) 0 (by decide) (by decide) e15 (pc := 81) (Ls := #[.val (.ref a1), .val (.ref x1), .val (.int (1 : Int32))]) (st := [(.int c1)]) (by rw [hml]; rfl) pd_0 rfl rfl (Nat.le_of_eq rfl) (hb hby d10_81) (by decide) (by decide) ?_
  intro v16 T16 X16 e16 hv16
  subst hv16
  show Gl p e below _ (T16.setTop (mkF m 84 #[.val (.ref a1), .val (.ref x1), .val (.int (1 : Int32))] [(.int (own_pln c1))]))
  refine Gl.of (fun _ kq_ => XS.ifYes X16.here hx rfl (pc0 := 84) (pc' := 106) rfl (hb hby d10_84) rfl ((if0 _ _).trans (feq (own_p1 h1')).2) (by decide) (by decide) kq_) ?_
  show Gl p e below _ (T16.setTop (mkF m 106 #[.val (.ref a1), .val (.ref x1), .val (.int (1 : Int32))] []))
  refine Gl.of (fun _ kq_ => XS.iinc X16.here hx rfl (hb hby d10_106) rfl (l' := #[.val (.ref a1), .val (.ref x1), .val (.int (2 : Int32))]) rfl kq_) ?_
  show Gl p e below _ (T16.setTop (mkF m 109 #[.val (.ref a1), .val (.ref x1), .val (.int (2 : Int32))] []))
  refine Gl.of (fun _ kq_ => XS.goto X16.here hx rfl (pc0 := 109) (pc' := 68) rfl (hb hby d10_109) (by decide) (by decide) kq_) ?_
  show Gl p e below _ (T16.setTop (mkF m 68 #[.val (.ref a1), .val (.ref x1), .val (.int (2 : Int32))] []))
  refine Gl.of (fun _ kq_ => XS.iloadN X16.here hx rfl (hb hby d10_68) rfl kq_) ?_
  show Gl p e below _ (T16.setTop (mkF m 69 #[.val (.ref a1), .val (.ref x1), .val (.int (2 : Int32))] [(.int (2 : Int32))]))
  refine Gl.of (fun _ kq_ => XS.aloadN X16.here hx rfl (hb hby d10_69) rfl rfl kq_) ?_
  show Gl p e below _ (T16.setTop (mkF m 70 #[.val (.ref a1), .val (.ref x1), .val (.int (2 : Int32))] [(.ref x1), (.int (2 : Int32))]))
  refine Gl.callVB X16 hx hZ (y := (⟨"java/lang/String", "length", "()I"⟩ : MethodName)) (z := (⟨"java/lang/String", "length", "()I"⟩ : MethodName)) hown (w65 hw) (w66 hw) (notFace_of_selects (args := #[]) (mvT hZ (w68 hw))) (w68 hw) (w67 hw) (desc_ne (by decide)) (W := 1) (fun v => v = some (.int (2 : Int32))) (b := x1) (argsL := []) (rest := [(.int (2 : Int32))]) gc5.1 (StrChars.Road.lenW (W := 1) hZ (own_wln hw) (kI := 4) (w12 hw) gc5.1 gc5.2.1 gc5.2.2.1 gc5.2.2.2.1 gc5.cod gc5.up (SC.ext O2.2) hcz gc5.2.2.2.2.2 (by decide) (by decide)) (by decide) (by decide) e16 (pc := 70) (Ls := #[.val (.ref a1), .val (.ref x1), .val (.int (2 : Int32))]) (st := [(.ref x1), (.int (2 : Int32))]) (by rw [hml]; rfl) pd_5 rfl rfl (Nat.le_of_eq rfl) (hb hby d10_70) ?_
  intro v17 T17 X17 e17 hv17
  subst hv17
  show Gl p e below _ (T17.setTop (mkF m 73 #[.val (.ref a1), .val (.ref x1), .val (.int (2 : Int32))] [(.int (2 : Int32)), (.int (2 : Int32))]))
  refine Gl.of (fun _ kq_ => XS.icmpYes X17.here hx rfl (pc0 := 73) (pc' := 112) rfl (hb hby d10_73) rfl (flt (by decide : ¬ ((2 : Int32) < (2 : Int32)))).2.1 (by decide) (by decide) kq_) ?_
  show Gl p e below _ (T17.setTop (mkF m 112 #[.val (.ref a1), .val (.ref x1), .val (.int (2 : Int32))] []))
  refine Gl.of (fun _ kq_ => XS.aloadN X17.here hx rfl (hb hby d10_112) rfl rfl kq_) ?_
  show Gl p e below _ (T17.setTop (mkF m 113 #[.val (.ref a1), .val (.ref x1), .val (.int (2 : Int32))] [(.ref a1)]))
  refine Gl.of (fun _ kq_ => XS.aloadN X17.here hx rfl (hb hby d10_113) rfl rfl kq_) ?_
  show Gl p e below _ (T17.setTop (mkF m 114 #[.val (.ref a1), .val (.ref x1), .val (.int (2 : Int32))] [(.ref x1), (.ref a1)]))
  obtain ⟨T18, h18, X18, e18, W18, st18⟩ := putF X17 hx hZ hown (host := "") (Or.inl (w103 hw)) Via.refl e17 fc4 ec3 (Or.inr ⟨(w104 hw), rfl, hnm⟩) (w42 hw) (ty := (.object "java/lang/String")) (by decide) rfl rfl (g := (mkF m 114 #[.val (.ref a1), .val (.ref x1), .val (.int (2 : Int32))] [(.ref x1), (.ref a1)])) rfl rfl (hb hby d10_114)
  refine Gl.of st18 ?_
  have F18 : Fld Z h18 a1 "com/example/schenley/schenley/Identifier" "name" "Ljava/lang/String;" (.ref x1) := fc4.same W18
  have ec19 := ec3.wr W18
  have gc20 := gc5.wr W18 hn1 hn2
  have N18 := Fr.snoc X18 (Fr.nil n0) Ga1
  have O18 := O2.wr W18 Ga1
  have K18 := K2.wr W18 (Or.inl (List.mem_of_getElem? (i := 0) rfl))
  have hk18 := Nat.le_trans hk2 (Keep.of_wr W18).1
  show Gl p e below _ (T18.setTop (mkF m 117 #[.val (.ref a1), .val (.ref x1), .val (.int (2 : Int32))] []))
  exact Gl.ret0W X18 hx hlk hret (hb hby d10_117) e18 (⟨rfl, N18, K18, F18⟩) hS2 hk18 (by decide) (by decide)
theorem ef_10 (m : MethodId) (x0 : Addr) (x1 : Addr) : entryFrame m #[(.ref x0), (.ref x1)] 3 = mkF m 0 #[.val (.ref x0), .val (.ref x1), .unset] [] := by first | (simp [entryFrame, mkF, argsToLocals, Value.category, maxLocals]; done) | rfl
set_option maxRecDepth 65536 in
set_option maxHeartbeats 40000000 in
theorem rmI3 (l : Launch) (Z : State) (a0 : Array Value) (hw : ∀ d ∈ tables_1, d.before a0 Z = true) (h0 : Heap) (a1 x1 t1 : Addr) (kb1 : ClassId) (c0 c1 c2 : Int32) (cz : Int32) (fm : Value) (n0 : Nat) (h0' : own_fst c0) (h1' : own_any c1) (h2' : own_any c2) (E1 : Exa Z h0 a1 "com/example/schenley/schenley/Identifier") (I1 : Fld Z h0 a1 "com/example/schenley/schenley/Identifier" "name" "Ljava/lang/String;" .null) (Ga1 : n0 ≤ a1) (SN : Strg Z h0 x1 t1 kb1 [c0, c1, c2]) (hn1 : x1 ≠ a1) (hn2 : t1 ≠ a1) (SC : Sta Z Z.heap "java/lang/String" "COMPACT_STRINGS" "Z" (.int cz)) (hcz : ¬ cz = 0) (SF : Sta Z Z.heap "jdk/internal/util/Preconditions" "SIOOBE_FORMATTER" "Ljava/util/function/BiFunction;" fm) (rf : fm.isRef = true) (O0 : Old Z n0 h0) : ConW l Z (⟨"com/example/schenley/schenley/Identifier", "<init>", "(Ljava/lang/String;)V"⟩ : MethodName) prog_10_method_1_code 3 none [] ({ frames := 4, cells := 2, slots := 20, locals := 53 } : Room) 2 20 #[(.ref a1), (.ref x1)] h0 (fun v h L => v = none ∧ Fr n0 L ∧ Keep h0 h [a1] ∧ Fld Z h a1 "com/example/schenley/schenley/Identifier" "name" "Ljava/lang/String;" (.ref x1)) := by
  refine ConW.intro (plainFor_of_name pn_1) ?_
  intro p e s m below meth c s₁ X0 hx hby hml hZ hown hnm hret hlk e0 hs0
  refine Gl.of (fun _ kq_ => castTop (ef_10 m a1 x1) kq_) ?_
  have hS0 := (State.WarmedH.refl s).since 0
  have hk0 : 0 ≤ h0.size := Nat.zero_le _
  have K0 := Keep.refl h0 [a1]
  show Gl p e below _ (s₁.setTop (mkF m 0 #[.val (.ref a1), .val (.ref x1), .unset] []))
  refine Gl.of (fun _ kq_ => XS.aloadN X0.here hx rfl (hb hby d10_0) rfl rfl kq_) ?_
  show Gl p e below _ (s₁.setTop (mkF m 1 #[.val (.ref a1), .val (.ref x1), .unset] [(.ref a1)]))
  refine Gl.callI0 X0 hx hZ (y := (⟨"java/lang/Record", "<init>", "()V"⟩ : MethodName)) rfl hown (w47 hw) (w48 hw) (w50 hw) (w51 hw) (desc_ne (by decide)) (b := a1) (argsL := []) (rest := []) (rmR l Z a0 hw _ a1) 0 (by decide) (by decide) e0 (pc := 1) (Ls := #[.val (.ref a1), .val (.ref x1), .unset]) (st := [(.ref a1)]) (by rw [hml]; rfl) pd_2 rfl rfl (Nat.le_of_eq rfl) (hb hby d10_1) (by decide) (by decide) ?_
  intro v1 T1 X1 e1 hv1
  subst hv1
  show Gl p e below _ (T1.setTop (mkF m 4 #[.val (.ref a1), .val (.ref x1), .unset] []))
  refine Gl.of (fun _ kq_ => XS.aloadN X1.here hx rfl (hb hby d10_4) rfl rfl kq_) ?_
  show Gl p e below _ (T1.setTop (mkF m 5 #[.val (.ref a1), .val (.ref x1), .unset] [(.ref x1)]))
  obtain ⟨b2, T2, h2, k2, X2, e2, E2, hS2, hk2, hZ, hown, st2⟩ := ldcS X1 hx hZ hown (w53 hw) (own_str hw) e1 hS0 hk0 (g := (mkF m 5 #[.val (.ref a1), .val (.ref x1), .unset] [(.ref x1)])) rfl (hb hby d10_5) (n := 16) (by decide) (by decide) (by decide) (by decide)
  refine Gl.of st2 ?_
  have ec3 := E1.ext E2
  have fc4 := I1.ext E2
  have gc5 := SN.ext E2
  have O2 := O0.ext E2
  have K2 := K0.ext E2
  show Gl p e below _ (T2.setTop (mkF m 7 #[.val (.ref a1), .val (.ref x1), .unset] [(.ref b2), (.ref x1)]))
  refine Gl.callS0 X2 hx hZ (y := (⟨"java/util/Objects", "requireNonNull", "(Ljava/lang/Object;Ljava/lang/String;)Ljava/lang/Object;"⟩ : MethodName)) hown (w56 hw) (w57 hw) (w58 hw) (w59 hw) (desc_ne (by decide)) (argsL := [(.ref x1), (.ref b2)]) (rest := []) (rmN l Z a0 hw _ x1 b2) 0 (by decide) (by decide) e2 (pc := 7) (Ls := #[.val (.ref a1), .val (.ref x1), .unset]) (st := [(.ref b2), (.ref x1)]) (by rw [hml]; rfl) pd_3 rfl rfl (Nat.le_of_eq rfl) (hb hby d10_7) (by decide) (by decide) ?_
  intro v6 T6 X6 e6 hv6
  subst hv6
  show Gl p e below _ (T6.setTop (mkF m 10 #[.val (.ref a1), .val (.ref x1), .unset] [(.ref x1)]))
  refine Gl.of (fun _ kq_ => XS.pop X6.here hx rfl (hb hby d10_10) rfl rfl kq_) ?_
  show Gl p e below _ (T6.setTop (mkF m 11 #[.val (.ref a1), .val (.ref x1), .unset] []))
  refine Gl.of (fun _ kq_ => XS.aloadN X6.here hx rfl (hb hby d10_11) rfl rfl kq_) ?_
  show Gl p e below _ (T6.setTop (mkF m 12 #[.val (.ref a1), .val (.ref x1), .unset] [(.ref x1)]))
  refine Gl.callVB X6 hx hZ (y := (⟨"java/lang/String", "isEmpty", "()Z"⟩ : MethodName)) (z := (⟨"java/lang/String", "isEmpty", "()Z"⟩ : MethodName)) hown (w60 hw) (w61 hw) (notFace_of_selects (args := #[]) (mvT hZ (w63 hw))) (w63 hw) (w62 hw) (desc_ne (by decide)) (W := 0) (fun v => v = some (.int (0 : Int32))) (b := x1) (argsL := []) (rest := []) gc5.1 (StrChars.Road.empW (W := 0) hZ (own_wem hw) (kI := 4) (w12 hw) gc5.1 gc5.2.1 gc5.2.2.1 gc5.2.2.2.1 gc5.cod gc5.up gc5.2.2.2.2.2 (by decide) (by decide)) (by decide) (by decide) e6 (pc := 12) (Ls := #[.val (.ref a1), .val (.ref x1), .unset]) (st := [(.ref x1)]) (by rw [hml]; rfl) pd_4 rfl rfl (Nat.le_of_eq rfl) (hb hby d10_12) ?_
  intro v7 T7 X7 e7 hv7
  subst hv7
  show Gl p e below _ (T7.setTop (mkF m 15 #[.val (.ref a1), .val (.ref x1), .unset] [(.int (0 : Int32))]))
  refine Gl.of (fun _ kq_ => XS.ifYes X7.here hx rfl (pc0 := 15) (pc' := 25) rfl (hb hby d10_15) rfl ((if0 _ _).trans (teq (by decide : (0 : Int32) = (0 : Int32))).1) (by decide) (by decide) kq_) ?_
  show Gl p e below _ (T7.setTop (mkF m 25 #[.val (.ref a1), .val (.ref x1), .unset] []))
  refine Gl.of (fun _ kq_ => XS.aloadN X7.here hx rfl (hb hby d10_25) rfl rfl kq_) ?_
  show Gl p e below _ (T7.setTop (mkF m 26 #[.val (.ref a1), .val (.ref x1), .unset] [(.ref x1)]))
  refine Gl.callVB X7 hx hZ (y := (⟨"java/lang/String", "length", "()I"⟩ : MethodName)) (z := (⟨"java/lang/String", "length", "()I"⟩ : MethodName)) hown (w65 hw) (w66 hw) (notFace_of_selects (args := #[]) (mvT hZ (w68 hw))) (w68 hw) (w67 hw) (desc_ne (by decide)) (W := 0) (fun v => v = some (.int (3 : Int32))) (b := x1) (argsL := []) (rest := []) gc5.1 (StrChars.Road.lenW (W := 0) hZ (own_wln hw) (kI := 4) (w12 hw) gc5.1 gc5.2.1 gc5.2.2.1 gc5.2.2.2.1 gc5.cod gc5.up (SC.ext O2.2) hcz gc5.2.2.2.2.2 (by decide) (by decide)) (by decide) (by decide) e7 (pc := 26) (Ls := #[.val (.ref a1), .val (.ref x1), .unset]) (st := [(.ref x1)]) (by rw [hml]; rfl) pd_5 rfl rfl (Nat.le_of_eq rfl) (hb hby d10_26) ?_
  intro v8 T8 X8 e8 hv8
  subst hv8
  show Gl p e below _ (T8.setTop (mkF m 29 #[.val (.ref a1), .val (.ref x1), .unset] [(.int (3 : Int32))]))
  refine Gl.of (fun _ kq_ => XS.bipush X8.here hx rfl (hb hby d10_29) kq_) ?_
  show Gl p e below _ (T8.setTop (mkF m 31 #[.val (.ref a1), .val (.ref x1), .unset] [(.int (63 : Int32)), (.int (3 : Int32))]))
  refine Gl.of (fun _ kq_ => XS.icmpYes X8.here hx rfl (pc0 := 31) (pc' := 48) rfl (hb hby d10_31) rfl (flt (by decide : ¬ ((63 : Int32) < (3 : Int32)))).2.2.2 (by decide) (by decide) kq_) ?_
  show Gl p e below _ (T8.setTop (mkF m 48 #[.val (.ref a1), .val (.ref x1), .unset] []))
  refine Gl.of (fun _ kq_ => XS.aloadN X8.here hx rfl (hb hby d10_48) rfl rfl kq_) ?_
  show Gl p e below _ (T8.setTop (mkF m 49 #[.val (.ref a1), .val (.ref x1), .unset] [(.ref x1)]))
  refine Gl.of (fun _ kq_ => XS.iconst X8.here hx rfl (hb hby d10_49) kq_) ?_
  show Gl p e below _ (T8.setTop (mkF m 50 #[.val (.ref a1), .val (.ref x1), .unset] [(.int (0 : Int32)), (.ref x1)]))
  refine Gl.callVB X8 hx hZ (y := (⟨"java/lang/String", "charAt", "(I)C"⟩ : MethodName)) (z := (⟨"java/lang/String", "charAt", "(I)C"⟩ : MethodName)) hown (w75 hw) (w76 hw) (notFace_of_selects (args := #[]) (mvT hZ (w78 hw))) (w78 hw) (w77 hw) (desc_ne (by decide)) (W := 0) (fun v => v = some (.int c0)) (b := x1) (argsL := [(.int (0 : Int32))]) (rest := []) gc5.1 (StrChars.Road.chN (W := 0) hZ (own_wch hw) (kI := 4) (w12 hw) gc5.1 gc5.2.1 gc5.2.2.1 gc5.2.2.2.1 gc5.cod gc5.up (SC.ext O2.2) hcz (SF.ext O2.2) rf gc5.2.2.2.2.2 (i := 0) (Nat.le_of_ble_eq_true rfl) (j := (0 : Int32)) rfl (by decide) (by decide)) (by decide) (by decide) e8 (pc := 50) (Ls := #[.val (.ref a1), .val (.ref x1), .unset]) (st := [(.int (0 : Int32)), (.ref x1)]) (by rw [hml]; rfl) pd_6 rfl rfl (Nat.le_of_eq rfl) (hb hby d10_50) ?_
  intro v9 T9 X9 e9 hv9
  subst hv9
  show Gl p e below _ (T9.setTop (mkF m 53 #[.val (.ref a1), .val (.ref x1), .unset] [(.int c0)]))
  refine Gl.callS0 X9 hx hZ (y := (⟨"com/example/schenley/schenley/Identifier", "isDigit", "(C)Z"⟩ : MethodName)) hown (w97 hw) (w98 hw) (w43 hw) (w99 hw) (desc_ne (by decide)) (argsL := [(.int c0)]) (rest := []) (rmD l Z a0 hw _ c0) 0 (by decide) (by decide) e9 (pc := 53) (Ls := #[.val (.ref a1), .val (.ref x1), .unset]) (st := [(.int c0)]) (by rw [hml]; rfl) pd_0 rfl rfl (Nat.le_of_eq rfl) (hb hby d10_53) (by decide) (by decide) ?_
  intro v10 T10 X10 e10 hv10
  subst hv10
  show Gl p e below _ (T10.setTop (mkF m 56 #[.val (.ref a1), .val (.ref x1), .unset] [(.int (own_dig c0))]))
  refine Gl.of (fun _ kq_ => XS.ifYes X10.here hx rfl (pc0 := 56) (pc' := 66) rfl (hb hby d10_56) rfl ((if0 _ _).trans (teq (own_d0 h0')).1) (by decide) (by decide) kq_) ?_
  show Gl p e below _ (T10.setTop (mkF m 66 #[.val (.ref a1), .val (.ref x1), .unset] []))
  refine Gl.of (fun _ kq_ => XS.iconst X10.here hx rfl (hb hby d10_66) kq_) ?_
  show Gl p e below _ (T10.setTop (mkF m 67 #[.val (.ref a1), .val (.ref x1), .unset] [(.int (0 : Int32))]))
  refine Gl.of (fun _ kq_ => XS.istoreN X10.here hx rfl (hb hby d10_67) rfl (l' := #[.val (.ref a1), .val (.ref x1), .val (.int (0 : Int32))]) rfl kq_) ?_
  show Gl p e below _ (T10.setTop (mkF m 68 #[.val (.ref a1), .val (.ref x1), .val (.int (0 : Int32))] []))
  refine Gl.of (fun _ kq_ => XS.iloadN X10.here hx rfl (hb hby d10_68) rfl kq_) ?_
  show Gl p e below _ (T10.setTop (mkF m 69 #[.val (.ref a1), .val (.ref x1), .val (.int (0 : Int32))] [(.int (0 : Int32))]))
  refine Gl.of (fun _ kq_ => XS.aloadN X10.here hx rfl (hb hby d10_69) rfl rfl kq_) ?_
  show Gl p e below _ (T10.setTop (mkF m 70 #[.val (.ref a1), .val (.ref x1), .val (.int (0 : Int32))] [(.ref x1), (.int (0 : Int32))]))
  refine Gl.callVB X10 hx hZ (y := (⟨"java/lang/String", "length", "()I"⟩ : MethodName)) (z := (⟨"java/lang/String", "length", "()I"⟩ : MethodName)) hown (w65 hw) (w66 hw) (notFace_of_selects (args := #[]) (mvT hZ (w68 hw))) (w68 hw) (w67 hw) (desc_ne (by decide)) (W := 1) (fun v => v = some (.int (3 : Int32))) (b := x1) (argsL := []) (rest := [(.int (0 : Int32))]) gc5.1 (StrChars.Road.lenW (W := 1) hZ (own_wln hw) (kI := 4) (w12 hw) gc5.1 gc5.2.1 gc5.2.2.1 gc5.2.2.2.1 gc5.cod gc5.up (SC.ext O2.2) hcz gc5.2.2.2.2.2 (by decide) (by decide)) (by decide) (by decide) e10 (pc := 70) (Ls := #[.val (.ref a1), .val (.ref x1), .val (.int (0 : Int32))]) (st := [(.ref x1), (.int (0 : Int32))]) (by rw [hml]; rfl) pd_5 rfl rfl (Nat.le_of_eq rfl) (hb hby d10_70) ?_
  intro v11 T11 X11 e11 hv11
  subst hv11
  show Gl p e below _ (T11.setTop (mkF m 73 #[.val (.ref a1), .val (.ref x1), .val (.int (0 : Int32))] [(.int (3 : Int32)), (.int (0 : Int32))]))
  refine Gl.of (fun _ kq_ => XS.icmpNo X11.here hx rfl (hb hby d10_73) rfl (tlt (by decide : (0 : Int32) < (3 : Int32))).2.1 kq_) ?_
  show Gl p e below _ (T11.setTop (mkF m 76 #[.val (.ref a1), .val (.ref x1), .val (.int (0 : Int32))] []))
  refine Gl.of (fun _ kq_ => XS.aloadN X11.here hx rfl (hb hby d10_76) rfl rfl kq_) ?_
  show Gl p e below _ (T11.setTop (mkF m 77 #[.val (.ref a1), .val (.ref x1), .val (.int (0 : Int32))] [(.ref x1)]))
  refine Gl.of (fun _ kq_ => XS.iloadN X11.here hx rfl (hb hby d10_77) rfl kq_) ?_
  show Gl p e below _ (T11.setTop (mkF m 78 #[.val (.ref a1), .val (.ref x1), .val (.int (0 : Int32))] [(.int (0 : Int32)), (.ref x1)]))
  refine Gl.callVB X11 hx hZ (y := (⟨"java/lang/String", "charAt", "(I)C"⟩ : MethodName)) (z := (⟨"java/lang/String", "charAt", "(I)C"⟩ : MethodName)) hown (w75 hw) (w76 hw) (notFace_of_selects (args := #[]) (mvT hZ (w78 hw))) (w78 hw) (w77 hw) (desc_ne (by decide)) (W := 0) (fun v => v = some (.int c0)) (b := x1) (argsL := [(.int (0 : Int32))]) (rest := []) gc5.1 (StrChars.Road.chN (W := 0) hZ (own_wch hw) (kI := 4) (w12 hw) gc5.1 gc5.2.1 gc5.2.2.1 gc5.2.2.2.1 gc5.cod gc5.up (SC.ext O2.2) hcz (SF.ext O2.2) rf gc5.2.2.2.2.2 (i := 0) (Nat.le_of_ble_eq_true rfl) (j := (0 : Int32)) rfl (by decide) (by decide)) (by decide) (by decide) e11 (pc := 78) (Ls := #[.val (.ref a1), .val (.ref x1), .val (.int (0 : Int32))]) (st := [(.int (0 : Int32)), (.ref x1)]) (by rw [hml]; rfl) pd_6 rfl rfl (Nat.le_of_eq rfl) (hb hby d10_78) ?_
  intro v12 T12 X12 e12 hv12
  subst hv12
  show Gl p e below _ (T12.setTop (mkF m 81 #[.val (.ref a1), .val (.ref x1), .val (.int (0 : Int32))] [(.int c0)]))
  refine Gl.callS0 X12 hx hZ (y := (⟨"com/example/schenley/schenley/Identifier", "isPlain", "(C)Z"⟩ : MethodName)) hown (w100 hw) (w101 hw) (w43 hw) (w102 hw) (desc_ne (by decide)) (argsL := [(.int c0)]) (rest := []) (rmP l Z a0 hw _ c0) 0 (by decide) (by decide) e12 (pc := 81) (Ls := #[.val (.ref a1), .val (.ref x1), .val (.int (0 : Int32))]) (st := [(.int c0)]) (by rw [hml]; rfl) pd_0 rfl rfl (Nat.le_of_eq rfl) (hb hby d10_81) (by decide) (by decide) ?_
  intro v13 T13 X13 e13 hv13
  subst hv13
  show Gl p e below _ (T13.setTop (mkF m 84 #[.val (.ref a1), .val (.ref x1), .val (.int (0 : Int32))] [(.int (own_pln c0))]))
  refine Gl.of (fun _ kq_ => XS.ifYes X13.here hx rfl (pc0 := 84) (pc' := 106) rfl (hb hby d10_84) rfl ((if0 _ _).trans (feq (own_p1 (own_fa h0'))).2) (by decide) (by decide) kq_) ?_
  show Gl p e below _ (T13.setTop (mkF m 106 #[.val (.ref a1), .val (.ref x1), .val (.int (0 : Int32))] []))
  refine Gl.of (fun _ kq_ => XS.iinc X13.here hx rfl (hb hby d10_106) rfl (l' := #[.val (.ref a1), .val (.ref x1), .val (.int (1 : Int32))]) rfl kq_) ?_
  show Gl p e below _ (T13.setTop (mkF m 109 #[.val (.ref a1), .val (.ref x1), .val (.int (1 : Int32))] []))
  refine Gl.of (fun _ kq_ => XS.goto X13.here hx rfl (pc0 := 109) (pc' := 68) rfl (hb hby d10_109) (by decide) (by decide) kq_) ?_
  show Gl p e below _ (T13.setTop (mkF m 68 #[.val (.ref a1), .val (.ref x1), .val (.int (1 : Int32))] []))
  refine Gl.of (fun _ kq_ => XS.iloadN X13.here hx rfl (hb hby d10_68) rfl kq_) ?_
  show Gl p e below _ (T13.setTop (mkF m 69 #[.val (.ref a1), .val (.ref x1), .val (.int (1 : Int32))] [(.int (1 : Int32))]))
  refine Gl.of (fun _ kq_ => XS.aloadN X13.here hx rfl (hb hby d10_69) rfl rfl kq_) ?_
  show Gl p e below _ (T13.setTop (mkF m 70 #[.val (.ref a1), .val (.ref x1), .val (.int (1 : Int32))] [(.ref x1), (.int (1 : Int32))]))
  refine Gl.callVB X13 hx hZ (y := (⟨"java/lang/String", "length", "()I"⟩ : MethodName)) (z := (⟨"java/lang/String", "length", "()I"⟩ : MethodName)) hown (w65 hw) (w66 hw) (notFace_of_selects (args := #[]) (mvT hZ (w68 hw))) (w68 hw) (w67 hw) (desc_ne (by decide)) (W := 1) (fun v => v = some (.int (3 : Int32))) (b := x1) (argsL := []) (rest := [(.int (1 : Int32))]) gc5.1 (StrChars.Road.lenW (W := 1) hZ (own_wln hw) (kI := 4) (w12 hw) gc5.1 gc5.2.1 gc5.2.2.1 gc5.2.2.2.1 gc5.cod gc5.up (SC.ext O2.2) hcz gc5.2.2.2.2.2 (by decide) (by decide)) (by decide) (by decide) e13 (pc := 70) (Ls := #[.val (.ref a1), .val (.ref x1), .val (.int (1 : Int32))]) (st := [(.ref x1), (.int (1 : Int32))]) (by rw [hml]; rfl) pd_5 rfl rfl (Nat.le_of_eq rfl) (hb hby d10_70) ?_
  intro v14 T14 X14 e14 hv14
  subst hv14
  show Gl p e below _ (T14.setTop (mkF m 73 #[.val (.ref a1), .val (.ref x1), .val (.int (1 : Int32))] [(.int (3 : Int32)), (.int (1 : Int32))]))
  refine Gl.of (fun _ kq_ => XS.icmpNo X14.here hx rfl (hb hby d10_73) rfl (tlt (by decide : (1 : Int32) < (3 : Int32))).2.1 kq_) ?_
  show Gl p e below _ (T14.setTop (mkF m 76 #[.val (.ref a1), .val (.ref x1), .val (.int (1 : Int32))] []))
  refine Gl.of (fun _ kq_ => XS.aloadN X14.here hx rfl (hb hby d10_76) rfl rfl kq_) ?_
  show Gl p e below _ (T14.setTop (mkF m 77 #[.val (.ref a1), .val (.ref x1), .val (.int (1 : Int32))] [(.ref x1)]))
  refine Gl.of (fun _ kq_ => XS.iloadN X14.here hx rfl (hb hby d10_77) rfl kq_) ?_
  show Gl p e below _ (T14.setTop (mkF m 78 #[.val (.ref a1), .val (.ref x1), .val (.int (1 : Int32))] [(.int (1 : Int32)), (.ref x1)]))
  refine Gl.callVB X14 hx hZ (y := (⟨"java/lang/String", "charAt", "(I)C"⟩ : MethodName)) (z := (⟨"java/lang/String", "charAt", "(I)C"⟩ : MethodName)) hown (w75 hw) (w76 hw) (notFace_of_selects (args := #[]) (mvT hZ (w78 hw))) (w78 hw) (w77 hw) (desc_ne (by decide)) (W := 0) (fun v => v = some (.int c1)) (b := x1) (argsL := [(.int (1 : Int32))]) (rest := []) gc5.1 (StrChars.Road.chN (W := 0) hZ (own_wch hw) (kI := 4) (w12 hw) gc5.1 gc5.2.1 gc5.2.2.1 gc5.2.2.2.1 gc5.cod gc5.up (SC.ext O2.2) hcz (SF.ext O2.2) rf gc5.2.2.2.2.2 (i := 1) (Nat.le_of_ble_eq_true rfl) (j := (1 : Int32)) rfl (by decide) (by decide)) (by decide) (by decide) e14 (pc := 78) (Ls := #[.val (.ref a1), .val (.ref x1), .val (.int (1 : Int32))]) (st := [(.int (1 : Int32)), (.ref x1)]) (by rw [hml]; rfl) pd_6 rfl rfl (Nat.le_of_eq rfl) (hb hby d10_78) ?_
  intro v15 T15 X15 e15 hv15
  subst hv15
  show Gl p e below _ (T15.setTop (mkF m 81 #[.val (.ref a1), .val (.ref x1), .val (.int (1 : Int32))] [(.int c1)]))
  refine Gl.callS0 X15 hx hZ (y := (⟨"com/example/schenley/schenley/Identifier", "isPlain", "(C)Z"⟩ : MethodName)) hown (w100 hw) (w101 hw) (w43 hw) (w102 hw) (desc_ne (by decide)) (argsL := [(.int c1)]) (rest := []) (rmP l Z a0 hw _ c1) 0 (by decide) (by decide) e15 (pc := 81) (Ls := #[.val (.ref a1), .val (.ref x1), .val (.int (1 : Int32))]) (st := [(.int c1)]) (by rw [hml]; rfl) pd_0 rfl rfl (Nat.le_of_eq rfl) (hb hby d10_81) (by decide) (by decide) ?_
  intro v16 T16 X16 e16 hv16
  subst hv16
  show Gl p e below _ (T16.setTop (mkF m 84 #[.val (.ref a1), .val (.ref x1), .val (.int (1 : Int32))] [(.int (own_pln c1))]))
  refine Gl.of (fun _ kq_ => XS.ifYes X16.here hx rfl (pc0 := 84) (pc' := 106) rfl (hb hby d10_84) rfl ((if0 _ _).trans (feq (own_p1 h1')).2) (by decide) (by decide) kq_) ?_
  show Gl p e below _ (T16.setTop (mkF m 106 #[.val (.ref a1), .val (.ref x1), .val (.int (1 : Int32))] []))
  refine Gl.of (fun _ kq_ => XS.iinc X16.here hx rfl (hb hby d10_106) rfl (l' := #[.val (.ref a1), .val (.ref x1), .val (.int (2 : Int32))]) rfl kq_) ?_
  show Gl p e below _ (T16.setTop (mkF m 109 #[.val (.ref a1), .val (.ref x1), .val (.int (2 : Int32))] []))
  refine Gl.of (fun _ kq_ => XS.goto X16.here hx rfl (pc0 := 109) (pc' := 68) rfl (hb hby d10_109) (by decide) (by decide) kq_) ?_
  show Gl p e below _ (T16.setTop (mkF m 68 #[.val (.ref a1), .val (.ref x1), .val (.int (2 : Int32))] []))
  refine Gl.of (fun _ kq_ => XS.iloadN X16.here hx rfl (hb hby d10_68) rfl kq_) ?_
  show Gl p e below _ (T16.setTop (mkF m 69 #[.val (.ref a1), .val (.ref x1), .val (.int (2 : Int32))] [(.int (2 : Int32))]))
  refine Gl.of (fun _ kq_ => XS.aloadN X16.here hx rfl (hb hby d10_69) rfl rfl kq_) ?_
  show Gl p e below _ (T16.setTop (mkF m 70 #[.val (.ref a1), .val (.ref x1), .val (.int (2 : Int32))] [(.ref x1), (.int (2 : Int32))]))
  refine Gl.callVB X16 hx hZ (y := (⟨"java/lang/String", "length", "()I"⟩ : MethodName)) (z := (⟨"java/lang/String", "length", "()I"⟩ : MethodName)) hown (w65 hw) (w66 hw) (notFace_of_selects (args := #[]) (mvT hZ (w68 hw))) (w68 hw) (w67 hw) (desc_ne (by decide)) (W := 1) (fun v => v = some (.int (3 : Int32))) (b := x1) (argsL := []) (rest := [(.int (2 : Int32))]) gc5.1 (StrChars.Road.lenW (W := 1) hZ (own_wln hw) (kI := 4) (w12 hw) gc5.1 gc5.2.1 gc5.2.2.1 gc5.2.2.2.1 gc5.cod gc5.up (SC.ext O2.2) hcz gc5.2.2.2.2.2 (by decide) (by decide)) (by decide) (by decide) e16 (pc := 70) (Ls := #[.val (.ref a1), .val (.ref x1), .val (.int (2 : Int32))]) (st := [(.ref x1), (.int (2 : Int32))]) (by rw [hml]; rfl) pd_5 rfl rfl (Nat.le_of_eq rfl) (hb hby d10_70) ?_
  intro v17 T17 X17 e17 hv17
  subst hv17
  show Gl p e below _ (T17.setTop (mkF m 73 #[.val (.ref a1), .val (.ref x1), .val (.int (2 : Int32))] [(.int (3 : Int32)), (.int (2 : Int32))]))
  refine Gl.of (fun _ kq_ => XS.icmpNo X17.here hx rfl (hb hby d10_73) rfl (tlt (by decide : (2 : Int32) < (3 : Int32))).2.1 kq_) ?_
  show Gl p e below _ (T17.setTop (mkF m 76 #[.val (.ref a1), .val (.ref x1), .val (.int (2 : Int32))] []))
  refine Gl.of (fun _ kq_ => XS.aloadN X17.here hx rfl (hb hby d10_76) rfl rfl kq_) ?_
  show Gl p e below _ (T17.setTop (mkF m 77 #[.val (.ref a1), .val (.ref x1), .val (.int (2 : Int32))] [(.ref x1)]))
  refine Gl.of (fun _ kq_ => XS.iloadN X17.here hx rfl (hb hby d10_77) rfl kq_) ?_
  show Gl p e below _ (T17.setTop (mkF m 78 #[.val (.ref a1), .val (.ref x1), .val (.int (2 : Int32))] [(.int (2 : Int32)), (.ref x1)]))
  refine Gl.callVB X17 hx hZ (y := (⟨"java/lang/String", "charAt", "(I)C"⟩ : MethodName)) (z := (⟨"java/lang/String", "charAt", "(I)C"⟩ : MethodName)) hown (w75 hw) (w76 hw) (notFace_of_selects (args := #[]) (mvT hZ (w78 hw))) (w78 hw) (w77 hw) (desc_ne (by decide)) (W := 0) (fun v => v = some (.int c2)) (b := x1) (argsL := [(.int (2 : Int32))]) (rest := []) gc5.1 (StrChars.Road.chN (W := 0) hZ (own_wch hw) (kI := 4) (w12 hw) gc5.1 gc5.2.1 gc5.2.2.1 gc5.2.2.2.1 gc5.cod gc5.up (SC.ext O2.2) hcz (SF.ext O2.2) rf gc5.2.2.2.2.2 (i := 2) (Nat.le_of_ble_eq_true rfl) (j := (2 : Int32)) rfl (by decide) (by decide)) (by decide) (by decide) e17 (pc := 78) (Ls := #[.val (.ref a1), .val (.ref x1), .val (.int (2 : Int32))]) (st := [(.int (2 : Int32)), (.ref x1)]) (by rw [hml]; rfl) pd_6 rfl rfl (Nat.le_of_eq rfl) (hb hby d10_78) ?_
  intro v18 T18 X18 e18 hv18
  subst hv18
  show Gl p e below _ (T18.setTop (mkF m 81 #[.val (.ref a1), .val (.ref x1), .val (.int (2 : Int32))] [(.int c2)]))
  refine Gl.callS0 X18 hx hZ (y := (⟨"com/example/schenley/schenley/Identifier", "isPlain", "(C)Z"⟩ : MethodName)) hown (w100 hw) (w101 hw) (w43 hw) (w102 hw) (desc_ne (by decide)) (argsL := [(.int c2)]) (rest := []) (rmP l Z a0 hw _ c2) 0 (by decide) (by decide) e18 (pc := 81) (Ls := #[.val (.ref a1), .val (.ref x1), .val (.int (2 : Int32))]) (st := [(.int c2)]) (by rw [hml]; rfl) pd_0 rfl rfl (Nat.le_of_eq rfl) (hb hby d10_81) (by decide) (by decide) ?_
  intro v19 T19 X19 e19 hv19
  subst hv19
  show Gl p e below _ (T19.setTop (mkF m 84 #[.val (.ref a1), .val (.ref x1), .val (.int (2 : Int32))] [(.int (own_pln c2))]))
  refine Gl.of (fun _ kq_ => XS.ifYes X19.here hx rfl (pc0 := 84) (pc' := 106) rfl (hb hby d10_84) rfl ((if0 _ _).trans (feq (own_p1 h2')).2) (by decide) (by decide) kq_) ?_
  show Gl p e below _ (T19.setTop (mkF m 106 #[.val (.ref a1), .val (.ref x1), .val (.int (2 : Int32))] []))
  refine Gl.of (fun _ kq_ => XS.iinc X19.here hx rfl (hb hby d10_106) rfl (l' := #[.val (.ref a1), .val (.ref x1), .val (.int (3 : Int32))]) rfl kq_) ?_
  show Gl p e below _ (T19.setTop (mkF m 109 #[.val (.ref a1), .val (.ref x1), .val (.int (3 : Int32))] []))
  refine Gl.of (fun _ kq_ => XS.goto X19.here hx rfl (pc0 := 109) (pc' := 68) rfl (hb hby d10_109) (by decide) (by decide) kq_) ?_
  show Gl p e below _ (T19.setTop (mkF m 68 #[.val (.ref a1), .val (.ref x1), .val (.int (3 : Int32))] []))
  refine Gl.of (fun _ kq_ => XS.iloadN X19.here hx rfl (hb hby d10_68) rfl kq_) ?_
  show Gl p e below _ (T19.setTop (mkF m 69 #[.val (.ref a1), .val (.ref x1), .val (.int (3 : Int32))] [(.int (3 : Int32))]))
  refine Gl.of (fun _ kq_ => XS.aloadN X19.here hx rfl (hb hby d10_69) rfl rfl kq_) ?_
  show Gl p e below _ (T19.setTop (mkF m 70 #[.val (.ref a1), .val (.ref x1), .val (.int (3 : Int32))] [(.ref x1), (.int (3 : Int32))]))
  refine Gl.callVB X19 hx hZ (y := (⟨"java/lang/String", "length", "()I"⟩ : MethodName)) (z := (⟨"java/lang/String", "length", "()I"⟩ : MethodName)) hown (w65 hw) (w66 hw) (notFace_of_selects (args := #[]) (mvT hZ (w68 hw))) (w68 hw) (w67 hw) (desc_ne (by decide)) (W := 1) (fun v => v = some (.int (3 : Int32))) (b := x1) (argsL := []) (rest := [(.int (3 : Int32))]) gc5.1 (StrChars.Road.lenW (W := 1) hZ (own_wln hw) (kI := 4) (w12 hw) gc5.1 gc5.2.1 gc5.2.2.1 gc5.2.2.2.1 gc5.cod gc5.up (SC.ext O2.2) hcz gc5.2.2.2.2.2 (by decide) (by decide)) (by decide) (by decide) e19 (pc := 70) (Ls := #[.val (.ref a1), .val (.ref x1), .val (.int (3 : Int32))]) (st := [(.ref x1), (.int (3 : Int32))]) (by rw [hml]; rfl) pd_5 rfl rfl (Nat.le_of_eq rfl) (hb hby d10_70) ?_
  intro v20 T20 X20 e20 hv20
  subst hv20
  show Gl p e below _ (T20.setTop (mkF m 73 #[.val (.ref a1), .val (.ref x1), .val (.int (3 : Int32))] [(.int (3 : Int32)), (.int (3 : Int32))]))
  refine Gl.of (fun _ kq_ => XS.icmpYes X20.here hx rfl (pc0 := 73) (pc' := 112) rfl (hb hby d10_73) rfl (flt (by decide : ¬ ((3 : Int32) < (3 : Int32)))).2.1 (by decide) (by decide) kq_) ?_
  show Gl p e below _ (T20.setTop (mkF m 112 #[.val (.ref a1), .val (.ref x1), .val (.int (3 : Int32))] []))
  refine Gl.of (fun _ kq_ => XS.aloadN X20.here hx rfl (hb hby d10_112) rfl rfl kq_) ?_
  show Gl p e below _ (T20.setTop (mkF m 113 #[.val (.ref a1), .val (.ref x1), .val (.int (3 : Int32))] [(.ref a1)]))
  refine Gl.of (fun _ kq_ => XS.aloadN X20.here hx rfl (hb hby d10_113) rfl rfl kq_) ?_
  show Gl p e below _ (T20.setTop (mkF m 114 #[.val (.ref a1), .val (.ref x1), .val (.int (3 : Int32))] [(.ref x1), (.ref a1)]))
  obtain ⟨T21, h21, X21, e21, W21, st21⟩ := putF X20 hx hZ hown (host := "") (Or.inl (w103 hw)) Via.refl e20 fc4 ec3 (Or.inr ⟨(w104 hw), rfl, hnm⟩) (w42 hw) (ty := (.object "java/lang/String")) (by decide) rfl rfl (g := (mkF m 114 #[.val (.ref a1), .val (.ref x1), .val (.int (3 : Int32))] [(.ref x1), (.ref a1)])) rfl rfl (hb hby d10_114)
  refine Gl.of st21 ?_
  have F21 : Fld Z h21 a1 "com/example/schenley/schenley/Identifier" "name" "Ljava/lang/String;" (.ref x1) := fc4.same W21
  have ec22 := ec3.wr W21
  have gc23 := gc5.wr W21 hn1 hn2
  have N21 := Fr.snoc X21 (Fr.nil n0) Ga1
  have O21 := O2.wr W21 Ga1
  have K21 := K2.wr W21 (Or.inl (List.mem_of_getElem? (i := 0) rfl))
  have hk21 := Nat.le_trans hk2 (Keep.of_wr W21).1
  show Gl p e below _ (T21.setTop (mkF m 117 #[.val (.ref a1), .val (.ref x1), .val (.int (3 : Int32))] []))
  exact Gl.ret0W X21 hx hlk hret (hb hby d10_117) e21 (⟨rfl, N21, K21, F21⟩) hS2 hk21 (by decide) (by decide)
theorem rmI (l : Launch) (Z : State) (a0 : Array Value) (hw : ∀ d ∈ tables_1, d.before a0 Z = true) (h0 : Heap) (a1 x1 t1 : Addr) (kb1 : ClassId) (cs : List Int32) (cz : Int32) (fm : Value) (n0 : Nat) (hok : own_ok cs) (E1 : Exa Z h0 a1 "com/example/schenley/schenley/Identifier") (I1 : Fld Z h0 a1 "com/example/schenley/schenley/Identifier" "name" "Ljava/lang/String;" .null) (Ga1 : n0 ≤ a1) (SN : Strg Z h0 x1 t1 kb1 cs) (hn1 : x1 ≠ a1) (hn2 : t1 ≠ a1) (SC : Sta Z Z.heap "java/lang/String" "COMPACT_STRINGS" "Z" (.int cz)) (hcz : ¬ cz = 0) (SF : Sta Z Z.heap "jdk/internal/util/Preconditions" "SIOOBE_FORMATTER" "Ljava/util/function/BiFunction;" fm) (rf : fm.isRef = true) (O0 : Old Z n0 h0) : ConW l Z (⟨"com/example/schenley/schenley/Identifier", "<init>", "(Ljava/lang/String;)V"⟩ : MethodName) prog_10_method_1_code 3 none [] ({ frames := 4, cells := 2, slots := 20, locals := 53 } : Room) 2 20 #[.ref a1, .ref x1] h0 (fun v h L => v = none ∧ Fr n0 L ∧ Keep h0 h [a1] ∧ Fld Z h a1 "com/example/schenley/schenley/Identifier" "name" "Ljava/lang/String;" (.ref x1)) := by
  rcases hok with ⟨a, rfl, ha⟩ | ⟨a, b, rfl, ha, hb⟩ | ⟨a, b, c, rfl, ha, hb, hc⟩
  · exact rmI1 l Z a0 hw h0 a1 x1 t1 kb1 a cz fm n0 ha E1 I1 Ga1 SN hn1 hn2 SC hcz SF rf O0
  · exact rmI2 l Z a0 hw h0 a1 x1 t1 kb1 a b cz fm n0 ha hb E1 I1 Ga1 SN hn1 hn2 SC hcz SF rf O0
  · exact rmI3 l Z a0 hw h0 a1 x1 t1 kb1 a b c cz fm n0 ha hb hc E1 I1 Ga1 SN hn1 hn2 SC hcz SF rf O0
theorem own_ins {Z : State} {a0 : Array Value} {h : Heap} {a : Addr} {C K : String} {n : Nat} {t : List String} (E : Exa Z h a C) (wi : (Jvm.Cond.instantiable K n).before a0 Z = true) (hc : ∀ w ∈ Cond.chainWords (C :: t), w.before a0 Z = true) (hn : K ∉ C :: t) : Ins Z h a K false := by
  obtain ⟨cell, k, h1, h2, h3, h4, -⟩ := E
  obtain ⟨cy, ky, i1, i2, i3, i4, -⟩ := Cond.instantiable_spec wi
  exact ⟨cell, cy, h1, i1, by rw [Vm.notAssignable_of_chain h2 i1 i2 i3 (Bool.or_eq_false_iff.mp i4).1 hc hn]; simp⟩
theorem own_chain {Z : State} {a0 : Array Value} (hw : ∀ d ∈ tables_1, d.before a0 Z = true) : ∀ w ∈ Cond.chainWords ["java/lang/String", "java/lang/Object"], w.before a0 Z = true := fun d hd => hw d ((by decide +kernel : ∀ d ∈ Cond.chainWords ["java/lang/String", "java/lang/Object"], d ∈ tables_1) d hd)
theorem ef_11 (m : MethodId) (x0 : Addr) (x1 : Addr) : entryFrame m #[(.ref x0), (.ref x1)] 3 = mkF m 0 #[.val (.ref x0), .val (.ref x1), .unset] [] := by first | (simp [entryFrame, mkF, argsToLocals, Value.category, maxLocals]; done) | rfl
theorem d23_0 : decode prog_10_method_3_code 0 = .ok (.aload_n 1, 1) := by decide +kernel
theorem d23_1 : decode prog_10_method_3_code 1 = .ok (.instanceof 24, 3) := by decide +kernel
theorem w110 {Z : State} {a0 : Array Value} (hw : ∀ d ∈ tables_1, d.before a0 Z = true) : (Jvm.Cond.classLink "com/example/schenley/schenley/Identifier" (24 : Nat) "com/example/schenley/schenley/Identifier").before a0 Z = true := hw _ (List.mem_of_getElem? (i := 110) rfl)
theorem d23_4 : decode prog_10_method_3_code 4 = .ok (.ifCond .eq 26, 3) := by decide +kernel
theorem d23_7 : decode prog_10_method_3_code 7 = .ok (.aload_n 1, 1) := by decide +kernel
theorem d23_8 : decode prog_10_method_3_code 8 = .ok (.checkcast 24, 3) := by decide +kernel
theorem d23_11 : decode prog_10_method_3_code 11 = .ok (.astore_n 2, 1) := by decide +kernel
theorem d23_12 : decode prog_10_method_3_code 12 = .ok (.aload_n 0, 1) := by decide +kernel
theorem d23_13 : decode prog_10_method_3_code 13 = .ok (.getfield 60, 3) := by decide +kernel
theorem d23_16 : decode prog_10_method_3_code 16 = .ok (.aload_n 2, 1) := by decide +kernel
theorem d23_17 : decode prog_10_method_3_code 17 = .ok (.getfield 60, 3) := by decide +kernel
theorem d23_20 : decode prog_10_method_3_code 20 = .ok (.invokevirtual 63, 3) := by decide +kernel
theorem w112 {Z : State} {a0 : Array Value} (hw : ∀ d ∈ tables_1, d.before a0 Z = true) : (Jvm.Cond.methodLink "com/example/schenley/schenley/Identifier" (63 : Nat) ({ cls := "java/lang/String", name := "equals", desc := "(Ljava/lang/Object;)Z" } : Jvm.MethodName)).before a0 Z = true := hw _ (List.mem_of_getElem? (i := 112) rfl)
theorem w113 {Z : State} {a0 : Array Value} (hw : ∀ d ∈ tables_1, d.before a0 Z = true) : (Jvm.Cond.declares ({ cls := "java/lang/String", name := "equals", desc := "(Ljava/lang/Object;)Z" } : Jvm.MethodName)).before a0 Z = true := hw _ (List.mem_of_getElem? (i := 113) rfl)
theorem w115 {Z : State} {a0 : Array Value} (hw : ∀ d ∈ tables_1, d.before a0 Z = true) : (Jvm.Cond.selects "java/lang/String" ({ cls := "java/lang/String", name := "equals", desc := "(Ljava/lang/Object;)Z" } : Jvm.MethodName) ({ cls := "java/lang/String", name := "equals", desc := "(Ljava/lang/Object;)Z" } : Jvm.MethodName)).before a0 Z = true := hw _ (List.mem_of_getElem? (i := 115) rfl)
theorem w114 {Z : State} {a0 : Array Value} (hw : ∀ d ∈ tables_1, d.before a0 Z = true) : (Jvm.Cond.instanceMethod ({ cls := "java/lang/String", name := "equals", desc := "(Ljava/lang/Object;)Z" } : Jvm.MethodName)).before a0 Z = true := hw _ (List.mem_of_getElem? (i := 114) rfl)
theorem pd_7 : parseMethodDescriptor "(Ljava/lang/Object;)Z" = some ⟨[(.object "java/lang/Object")], some .boolean⟩ := by decide +kernel
theorem d23_23 : decode prog_10_method_3_code 23 = .ok (.ifCond .eq 7, 3) := by decide +kernel
theorem d23_26 : decode prog_10_method_3_code 26 = .ok (.iconst 1, 1) := by decide +kernel
theorem d23_27 : decode prog_10_method_3_code 27 = .ok (.goto 4, 3) := by decide +kernel
theorem d23_31 : decode prog_10_method_3_code 31 = .ok (.ireturn, 1) := by decide +kernel
set_option maxRecDepth 65536 in
set_option maxHeartbeats 40000000 in
theorem rmQ1 (l : Launch) (Z : State) (a0 : Array Value) (hw : ∀ d ∈ tables_1, d.before a0 Z = true) (h0 : Heap) (a1 a2 x1 x2 t1 t2 : Addr) (kb1 kb2 : ClassId) (cs ds : List Int32) (cz : Int32) (E2 : Exa Z h0 a2 "com/example/schenley/schenley/Identifier") (F1 : Fld Z h0 a1 "com/example/schenley/schenley/Identifier" "name" "Ljava/lang/String;" (.ref x1)) (F2 : Fld Z h0 a2 "com/example/schenley/schenley/Identifier" "name" "Ljava/lang/String;" (.ref x2)) (SN1 : Strg Z h0 x1 t1 kb1 cs) (SN2 : Strg Z h0 x2 t2 kb2 ds) (SC : Sta Z h0 "java/lang/String" "COMPACT_STRINGS" "Z" (.int cz)) (hcz : ¬ cz = 0) (hcd : cs = ds) : Con l Z (⟨"com/example/schenley/schenley/Identifier", "equals", "(Ljava/lang/Object;)Z"⟩ : MethodName) prog_10_method_3_code 3 (some .boolean) [] ({ frames := 2, cells := 0, slots := 0, locals := 28 } : Room) 0 0 #[(.ref a1), (.ref a2)] h0 (Pur (fun v => v = some (.int 1)) h0) := by
  refine Con.intro (plainFor_of_name pn_1) ?_
  intro p e s m below meth c s₁ X0 hx hby hml hZ hown hnm hret hlk e0 hs0
  refine Gl.of (fun _ kq_ => castTop (ef_11 m a1 a2) kq_) ?_
  show Gl p e below _ (s₁.setTop (mkF m 0 #[.val (.ref a1), .val (.ref a2), .unset] []))
  refine Gl.of (fun _ kq_ => XS.aloadN X0.here hx rfl (hb hby d23_0) rfl rfl kq_) ?_
  show Gl p e below _ (s₁.setTop (mkF m 1 #[.val (.ref a1), .val (.ref a2), .unset] [(.ref a2)]))
  obtain ⟨T1, X1, e1, st1⟩ := instY X0 hx hZ hown (w110 hw) e0 (Ins.self E2) (g := (mkF m 1 #[.val (.ref a1), .val (.ref a2), .unset] [(.ref a2)])) rfl rfl (hb hby d23_1)
  refine Gl.of st1 ?_
  show Gl p e below _ (T1.setTop (mkF m 4 #[.val (.ref a1), .val (.ref a2), .unset] [(.int (1 : Int32))]))
  refine Gl.of (fun _ kq_ => XS.ifNo X1.here hx rfl (hb hby d23_4) rfl ((if0 _ _).trans (feq (by decide : ¬ ((1 : Int32) = (0 : Int32)))).1) kq_) ?_
  show Gl p e below _ (T1.setTop (mkF m 7 #[.val (.ref a1), .val (.ref a2), .unset] []))
  refine Gl.of (fun _ kq_ => XS.aloadN X1.here hx rfl (hb hby d23_7) rfl rfl kq_) ?_
  show Gl p e below _ (T1.setTop (mkF m 8 #[.val (.ref a1), .val (.ref a2), .unset] [(.ref a2)]))
  obtain ⟨T2, X2, e2, st2⟩ := castY X1 hx hZ hown (w110 hw) e1 (Ins.self E2) (g := (mkF m 8 #[.val (.ref a1), .val (.ref a2), .unset] [(.ref a2)])) rfl rfl (hb hby d23_8)
  refine Gl.of st2 ?_
  show Gl p e below _ (T2.setTop (mkF m 11 #[.val (.ref a1), .val (.ref a2), .unset] [(.ref a2)]))
  refine Gl.of (fun _ kq_ => XS.astoreN X2.here hx rfl (hb hby d23_11) rfl rfl (l' := #[.val (.ref a1), .val (.ref a2), .val (.ref a2)]) rfl kq_) ?_
  show Gl p e below _ (T2.setTop (mkF m 12 #[.val (.ref a1), .val (.ref a2), .val (.ref a2)] []))
  refine Gl.of (fun _ kq_ => XS.aloadN X2.here hx rfl (hb hby d23_12) rfl rfl kq_) ?_
  show Gl p e below _ (T2.setTop (mkF m 13 #[.val (.ref a1), .val (.ref a2), .val (.ref a2)] [(.ref a1)]))
  obtain ⟨T3, X3, e3, st3⟩ := getF X2 hx hZ hown (host := "") (Or.inl (w103 hw)) Via.refl e2 F1 (g := (mkF m 13 #[.val (.ref a1), .val (.ref a2), .val (.ref a2)] [(.ref a1)])) rfl rfl (hb hby d23_13)
  refine Gl.of st3 ?_
  show Gl p e below _ (T3.setTop (mkF m 16 #[.val (.ref a1), .val (.ref a2), .val (.ref a2)] [(.ref x1)]))
  refine Gl.of (fun _ kq_ => XS.aloadN X3.here hx rfl (hb hby d23_16) rfl rfl kq_) ?_
  show Gl p e below _ (T3.setTop (mkF m 17 #[.val (.ref a1), .val (.ref a2), .val (.ref a2)] [(.ref a2), (.ref x1)]))
  obtain ⟨T4, X4, e4, st4⟩ := getF X3 hx hZ hown (host := "") (Or.inl (w103 hw)) Via.refl e3 F2 (g := (mkF m 17 #[.val (.ref a1), .val (.ref a2), .val (.ref a2)] [(.ref a2), (.ref x1)])) rfl rfl (hb hby d23_17)
  refine Gl.of st4 ?_
  show Gl p e below _ (T4.setTop (mkF m 20 #[.val (.ref a1), .val (.ref a2), .val (.ref a2)] [(.ref x2), (.ref x1)]))
  refine Gl.callVB X4 hx hZ (y := (⟨"java/lang/String", "equals", "(Ljava/lang/Object;)Z"⟩ : MethodName)) (z := (⟨"java/lang/String", "equals", "(Ljava/lang/Object;)Z"⟩ : MethodName)) hown (w112 hw) (w113 hw) (notFace_of_selects (args := #[]) (mvT hZ (w115 hw))) (w115 hw) (w114 hw) (desc_ne (by decide)) (W := 0) (fun v => (v = some (.int 1) ∧ cs = ds) ∨ (v = some (.int 0) ∧ ¬ cs = ds)) (b := x1) (argsL := [(.ref x2)]) (rest := []) SN1.1 (StrChars.Road.eqW (W := 0) hZ (own_weq hw) (kI := 4) (w12 hw) SN1.1 SN1.2.1 SN1.2.2.1 SN1.2.2.2.1 SN1.cod SN1.up SN1.2.2.2.2.2 SN2.1 SN2.2.1 SN2.2.2.1 SN2.2.2.2.1 SN2.cod SN2.up SN2.2.2.2.2.2 SC hcz (by decide) (by decide)) (by decide) (by decide) e4 (pc := 20) (Ls := #[.val (.ref a1), .val (.ref a2), .val (.ref a2)]) (st := [(.ref x2), (.ref x1)]) (by rw [hml]; rfl) pd_7 rfl rfl (Nat.le_of_eq rfl) (hb hby d23_20) ?_
  intro v5 T5 X5 e5 hv5
  rcases hv5 with ⟨rfl, hq5⟩ | ⟨rfl, hq5⟩
  · show Gl p e below _ (T5.setTop (mkF m 23 #[.val (.ref a1), .val (.ref a2), .val (.ref a2)] [(.int (1 : Int32))]))
    refine Gl.of (fun _ kq_ => XS.ifNo X5.here hx rfl (hb hby d23_23) rfl ((if0 _ _).trans (feq (by decide : ¬ ((1 : Int32) = (0 : Int32)))).1) kq_) ?_
    show Gl p e below _ (T5.setTop (mkF m 26 #[.val (.ref a1), .val (.ref a2), .val (.ref a2)] []))
    refine Gl.of (fun _ kq_ => XS.iconst X5.here hx rfl (hb hby d23_26) kq_) ?_
    show Gl p e below _ (T5.setTop (mkF m 27 #[.val (.ref a1), .val (.ref a2), .val (.ref a2)] [(.int (1 : Int32))]))
    refine Gl.of (fun _ kq_ => XS.goto X5.here hx rfl (pc0 := 27) (pc' := 31) rfl (hb hby d23_27) (by decide) (by decide) kq_) ?_
    show Gl p e below _ (T5.setTop (mkF m 31 #[.val (.ref a1), .val (.ref a2), .val (.ref a2)] [(.int (1 : Int32))]))
    exact Gl.retN X5 hx hlk hret (by simp) (hb hby d23_31) e5 (⟨rfl, rfl, rfl⟩) (by decide) (by decide)
  · exact absurd hcd hq5
theorem ef_12 (m : MethodId) (x0 : Addr) (x1 : Addr) : entryFrame m #[(.ref x0), (.ref x1)] 3 = mkF m 0 #[.val (.ref x0), .val (.ref x1), .unset] [] := by first | (simp [entryFrame, mkF, argsToLocals, Value.category, maxLocals]; done) | rfl
theorem d23_30 : decode prog_10_method_3_code 30 = .ok (.iconst 0, 1) := by decide +kernel
set_option maxRecDepth 65536 in
set_option maxHeartbeats 40000000 in
theorem rmQ0 (l : Launch) (Z : State) (a0 : Array Value) (hw : ∀ d ∈ tables_1, d.before a0 Z = true) (h0 : Heap) (a1 a2 x1 x2 t1 t2 : Addr) (kb1 kb2 : ClassId) (cs ds : List Int32) (cz : Int32) (E2 : Exa Z h0 a2 "com/example/schenley/schenley/Identifier") (F1 : Fld Z h0 a1 "com/example/schenley/schenley/Identifier" "name" "Ljava/lang/String;" (.ref x1)) (F2 : Fld Z h0 a2 "com/example/schenley/schenley/Identifier" "name" "Ljava/lang/String;" (.ref x2)) (SN1 : Strg Z h0 x1 t1 kb1 cs) (SN2 : Strg Z h0 x2 t2 kb2 ds) (SC : Sta Z h0 "java/lang/String" "COMPACT_STRINGS" "Z" (.int cz)) (hcz : ¬ cz = 0) (hcd : ¬ cs = ds) : Con l Z (⟨"com/example/schenley/schenley/Identifier", "equals", "(Ljava/lang/Object;)Z"⟩ : MethodName) prog_10_method_3_code 3 (some .boolean) [] ({ frames := 2, cells := 0, slots := 0, locals := 28 } : Room) 0 0 #[(.ref a1), (.ref a2)] h0 (Pur (fun v => v = some (.int 0)) h0) := by
  refine Con.intro (plainFor_of_name pn_1) ?_
  intro p e s m below meth c s₁ X0 hx hby hml hZ hown hnm hret hlk e0 hs0
  refine Gl.of (fun _ kq_ => castTop (ef_12 m a1 a2) kq_) ?_
  show Gl p e below _ (s₁.setTop (mkF m 0 #[.val (.ref a1), .val (.ref a2), .unset] []))
  refine Gl.of (fun _ kq_ => XS.aloadN X0.here hx rfl (hb hby d23_0) rfl rfl kq_) ?_
  show Gl p e below _ (s₁.setTop (mkF m 1 #[.val (.ref a1), .val (.ref a2), .unset] [(.ref a2)]))
  obtain ⟨T1, X1, e1, st1⟩ := instY X0 hx hZ hown (w110 hw) e0 (Ins.self E2) (g := (mkF m 1 #[.val (.ref a1), .val (.ref a2), .unset] [(.ref a2)])) rfl rfl (hb hby d23_1)
  refine Gl.of st1 ?_
  show Gl p e below _ (T1.setTop (mkF m 4 #[.val (.ref a1), .val (.ref a2), .unset] [(.int (1 : Int32))]))
  refine Gl.of (fun _ kq_ => XS.ifNo X1.here hx rfl (hb hby d23_4) rfl ((if0 _ _).trans (feq (by decide : ¬ ((1 : Int32) = (0 : Int32)))).1) kq_) ?_
  show Gl p e below _ (T1.setTop (mkF m 7 #[.val (.ref a1), .val (.ref a2), .unset] []))
  refine Gl.of (fun _ kq_ => XS.aloadN X1.here hx rfl (hb hby d23_7) rfl rfl kq_) ?_
  show Gl p e below _ (T1.setTop (mkF m 8 #[.val (.ref a1), .val (.ref a2), .unset] [(.ref a2)]))
  obtain ⟨T2, X2, e2, st2⟩ := castY X1 hx hZ hown (w110 hw) e1 (Ins.self E2) (g := (mkF m 8 #[.val (.ref a1), .val (.ref a2), .unset] [(.ref a2)])) rfl rfl (hb hby d23_8)
  refine Gl.of st2 ?_
  show Gl p e below _ (T2.setTop (mkF m 11 #[.val (.ref a1), .val (.ref a2), .unset] [(.ref a2)]))
  refine Gl.of (fun _ kq_ => XS.astoreN X2.here hx rfl (hb hby d23_11) rfl rfl (l' := #[.val (.ref a1), .val (.ref a2), .val (.ref a2)]) rfl kq_) ?_
  show Gl p e below _ (T2.setTop (mkF m 12 #[.val (.ref a1), .val (.ref a2), .val (.ref a2)] []))
  refine Gl.of (fun _ kq_ => XS.aloadN X2.here hx rfl (hb hby d23_12) rfl rfl kq_) ?_
  show Gl p e below _ (T2.setTop (mkF m 13 #[.val (.ref a1), .val (.ref a2), .val (.ref a2)] [(.ref a1)]))
  obtain ⟨T3, X3, e3, st3⟩ := getF X2 hx hZ hown (host := "") (Or.inl (w103 hw)) Via.refl e2 F1 (g := (mkF m 13 #[.val (.ref a1), .val (.ref a2), .val (.ref a2)] [(.ref a1)])) rfl rfl (hb hby d23_13)
  refine Gl.of st3 ?_
  show Gl p e below _ (T3.setTop (mkF m 16 #[.val (.ref a1), .val (.ref a2), .val (.ref a2)] [(.ref x1)]))
  refine Gl.of (fun _ kq_ => XS.aloadN X3.here hx rfl (hb hby d23_16) rfl rfl kq_) ?_
  show Gl p e below _ (T3.setTop (mkF m 17 #[.val (.ref a1), .val (.ref a2), .val (.ref a2)] [(.ref a2), (.ref x1)]))
  obtain ⟨T4, X4, e4, st4⟩ := getF X3 hx hZ hown (host := "") (Or.inl (w103 hw)) Via.refl e3 F2 (g := (mkF m 17 #[.val (.ref a1), .val (.ref a2), .val (.ref a2)] [(.ref a2), (.ref x1)])) rfl rfl (hb hby d23_17)
  refine Gl.of st4 ?_
  show Gl p e below _ (T4.setTop (mkF m 20 #[.val (.ref a1), .val (.ref a2), .val (.ref a2)] [(.ref x2), (.ref x1)]))
  refine Gl.callVB X4 hx hZ (y := (⟨"java/lang/String", "equals", "(Ljava/lang/Object;)Z"⟩ : MethodName)) (z := (⟨"java/lang/String", "equals", "(Ljava/lang/Object;)Z"⟩ : MethodName)) hown (w112 hw) (w113 hw) (notFace_of_selects (args := #[]) (mvT hZ (w115 hw))) (w115 hw) (w114 hw) (desc_ne (by decide)) (W := 0) (fun v => (v = some (.int 1) ∧ cs = ds) ∨ (v = some (.int 0) ∧ ¬ cs = ds)) (b := x1) (argsL := [(.ref x2)]) (rest := []) SN1.1 (StrChars.Road.eqW (W := 0) hZ (own_weq hw) (kI := 4) (w12 hw) SN1.1 SN1.2.1 SN1.2.2.1 SN1.2.2.2.1 SN1.cod SN1.up SN1.2.2.2.2.2 SN2.1 SN2.2.1 SN2.2.2.1 SN2.2.2.2.1 SN2.cod SN2.up SN2.2.2.2.2.2 SC hcz (by decide) (by decide)) (by decide) (by decide) e4 (pc := 20) (Ls := #[.val (.ref a1), .val (.ref a2), .val (.ref a2)]) (st := [(.ref x2), (.ref x1)]) (by rw [hml]; rfl) pd_7 rfl rfl (Nat.le_of_eq rfl) (hb hby d23_20) ?_
  intro v5 T5 X5 e5 hv5
  rcases hv5 with ⟨rfl, hq5⟩ | ⟨rfl, hq5⟩
  · exact absurd hq5 hcd
  · show Gl p e below _ (T5.setTop (mkF m 23 #[.val (.ref a1), .val (.ref a2), .val (.ref a2)] [(.int (0 : Int32))]))
    refine Gl.of (fun _ kq_ => XS.ifYes X5.here hx rfl (pc0 := 23) (pc' := 30) rfl (hb hby d23_23) rfl ((if0 _ _).trans (teq (by decide : (0 : Int32) = (0 : Int32))).1) (by decide) (by decide) kq_) ?_
    show Gl p e below _ (T5.setTop (mkF m 30 #[.val (.ref a1), .val (.ref a2), .val (.ref a2)] []))
    refine Gl.of (fun _ kq_ => XS.iconst X5.here hx rfl (hb hby d23_30) kq_) ?_
    show Gl p e below _ (T5.setTop (mkF m 31 #[.val (.ref a1), .val (.ref a2), .val (.ref a2)] [(.int (0 : Int32))]))
    exact Gl.retN X5 hx hlk hret (by simp) (hb hby d23_31) e5 (⟨rfl, rfl, rfl⟩) (by decide) (by decide)
theorem ef_13 (m : MethodId) (x0 : Addr)  : entryFrame m #[(.ref x0), .null] 3 = mkF m 0 #[.val (.ref x0), .val .null, .unset] [] := by first | (simp [entryFrame, mkF, argsToLocals, Value.category, maxLocals]; done) | rfl
set_option maxRecDepth 65536 in
set_option maxHeartbeats 40000000 in
theorem rmQn (l : Launch) (Z : State) (a0 : Array Value) (hw : ∀ d ∈ tables_1, d.before a0 Z = true) (h0 : Heap) (a1 : Addr) : Con l Z (⟨"com/example/schenley/schenley/Identifier", "equals", "(Ljava/lang/Object;)Z"⟩ : MethodName) prog_10_method_3_code 3 (some .boolean) [] ({ frames := 2, cells := 0, slots := 0, locals := 28 } : Room) 0 0 #[(.ref a1), .null] h0 (Pur (fun v => v = some (.int 0)) h0) := by
  refine Con.intro (plainFor_of_name pn_1) ?_
  intro p e s m below meth c s₁ X0 hx hby hml hZ hown hnm hret hlk e0 hs0
  refine Gl.of (fun _ kq_ => castTop (ef_13 m a1 ) kq_) ?_
  show Gl p e below _ (s₁.setTop (mkF m 0 #[.val (.ref a1), .val .null, .unset] []))
  refine Gl.of (fun _ kq_ => XS.aloadN X0.here hx rfl (hb hby d23_0) rfl rfl kq_) ?_
  show Gl p e below _ (s₁.setTop (mkF m 1 #[.val (.ref a1), .val .null, .unset] [.null]))
  refine Gl.of (fun _ kq_ => X0.instanceofNull hx (g := (mkF m 1 #[.val (.ref a1), .val .null, .unset] [.null])) rfl rfl (hb hby d23_1) _ kq_) ?_
  show Gl p e below _ (s₁.setTop (mkF m 4 #[.val (.ref a1), .val .null, .unset] [(.int (0 : Int32))]))
  refine Gl.of (fun _ kq_ => XS.ifYes X0.here hx rfl (pc0 := 4) (pc' := 30) rfl (hb hby d23_4) rfl ((if0 _ _).trans (teq (by decide : (0 : Int32) = (0 : Int32))).1) (by decide) (by decide) kq_) ?_
  show Gl p e below _ (s₁.setTop (mkF m 30 #[.val (.ref a1), .val .null, .unset] []))
  refine Gl.of (fun _ kq_ => XS.iconst X0.here hx rfl (hb hby d23_30) kq_) ?_
  show Gl p e below _ (s₁.setTop (mkF m 31 #[.val (.ref a1), .val .null, .unset] [(.int (0 : Int32))]))
  exact Gl.retN X0 hx hlk hret (by simp) (hb hby d23_31) e0 (⟨rfl, rfl, rfl⟩) (by decide) (by decide)
theorem ef_14 (m : MethodId) (x0 : Addr) (x1 : Addr) : entryFrame m #[(.ref x0), (.ref x1)] 3 = mkF m 0 #[.val (.ref x0), .val (.ref x1), .unset] [] := by first | (simp [entryFrame, mkF, argsToLocals, Value.category, maxLocals]; done) | rfl
set_option maxRecDepth 65536 in
set_option maxHeartbeats 40000000 in
theorem rmQs (l : Launch) (Z : State) (a0 : Array Value) (hw : ∀ d ∈ tables_1, d.before a0 Z = true) (h0 : Heap) (a1 a2 : Addr) (E2 : Exa Z h0 a2 "java/lang/String") : Con l Z (⟨"com/example/schenley/schenley/Identifier", "equals", "(Ljava/lang/Object;)Z"⟩ : MethodName) prog_10_method_3_code 3 (some .boolean) [] ({ frames := 2, cells := 0, slots := 0, locals := 28 } : Room) 0 0 #[(.ref a1), (.ref a2)] h0 (Pur (fun v => v = some (.int 0)) h0) := by
  refine Con.intro (plainFor_of_name pn_1) ?_
  intro p e s m below meth c s₁ X0 hx hby hml hZ hown hnm hret hlk e0 hs0
  refine Gl.of (fun _ kq_ => castTop (ef_14 m a1 a2) kq_) ?_
  show Gl p e below _ (s₁.setTop (mkF m 0 #[.val (.ref a1), .val (.ref a2), .unset] []))
  refine Gl.of (fun _ kq_ => XS.aloadN X0.here hx rfl (hb hby d23_0) rfl rfl kq_) ?_
  show Gl p e below _ (s₁.setTop (mkF m 1 #[.val (.ref a1), .val (.ref a2), .unset] [(.ref a2)]))
  obtain ⟨T1, X1, e1, st1⟩ := instN X0 hx hZ hown (w110 hw) e0 (by rw [hs0]; exact own_ins (t := ["java/lang/Object"]) E2 (w42 hw) (own_chain hw) (by decide)) (by rw [hs0]; exact E2) (g := (mkF m 1 #[.val (.ref a1), .val (.ref a2), .unset] [(.ref a2)])) rfl rfl (hb hby d23_1)
  refine Gl.of st1 ?_
  show Gl p e below _ (T1.setTop (mkF m 4 #[.val (.ref a1), .val (.ref a2), .unset] [(.int (0 : Int32))]))
  refine Gl.of (fun _ kq_ => XS.ifYes X1.here hx rfl (pc0 := 4) (pc' := 30) rfl (hb hby d23_4) rfl ((if0 _ _).trans (teq (by decide : (0 : Int32) = (0 : Int32))).1) (by decide) (by decide) kq_) ?_
  show Gl p e below _ (T1.setTop (mkF m 30 #[.val (.ref a1), .val (.ref a2), .unset] []))
  refine Gl.of (fun _ kq_ => XS.iconst X1.here hx rfl (hb hby d23_30) kq_) ?_
  show Gl p e below _ (T1.setTop (mkF m 31 #[.val (.ref a1), .val (.ref a2), .unset] [(.int (0 : Int32))]))
  exact Gl.retN X1 hx hlk hret (by simp) (hb hby d23_31) e1 (⟨rfl, rfl, rfl⟩) (by decide) (by decide)
def own_rel (z : Int32) (cs ds : List Int32) : Prop := (z = 1 ∧ cs = ds) ∨ (z = 0 ∧ ¬ cs = ds)
theorem ef_15 (m : MethodId) (x0 : Int32) (x1 : Int32) (x2 : Int32) (x3 : Int32) (x4 : Int32) (x5 : Int32) : entryFrame m #[(.int x0), (.int x1), (.int x2), (.int x3), (.int x4), (.int x5)] maxLocals = mkF m 0 #[.val (.int x0), .val (.int x1), .val (.int x2), .val (.int x3), .val (.int x4), .val (.int x5), .unset, .unset, .unset, .unset, .unset, .unset, .unset, .unset, .unset, .unset, .unset, .unset, .unset, .unset, .unset, .unset, .unset] [] := by first | (simp [entryFrame, mkF, argsToLocals, Value.category, maxLocals]; done) | rfl
theorem w0 {Z : State} {a0 : Array Value} (hw : ∀ d ∈ tables_1, d.before a0 Z = true) : (Jvm.Cond.methodLink "com/example/schenley/schenley/IdentifierEqualsPinLaw" (13 : Nat) ({ cls := "com/example/schenley/schenley/IdentifierEqualsPinLaw", name := "firstPlain", desc := "(I)C" } : Jvm.MethodName)).before a0 Z = true := hw _ (List.mem_of_getElem? (i := 0) rfl)
theorem w1 {Z : State} {a0 : Array Value} (hw : ∀ d ∈ tables_1, d.before a0 Z = true) : (Jvm.Cond.static ({ cls := "com/example/schenley/schenley/IdentifierEqualsPinLaw", name := "firstPlain", desc := "(I)C" } : Jvm.MethodName)).before a0 Z = true := hw _ (List.mem_of_getElem? (i := 1) rfl)
theorem w2 {Z : State} {a0 : Array Value} (hw : ∀ d ∈ tables_1, d.before a0 Z = true) : (Jvm.Cond.initialized "com/example/schenley/schenley/IdentifierEqualsPinLaw").before a0 Z = true := hw _ (List.mem_of_getElem? (i := 2) rfl)
theorem w3 {Z : State} {a0 : Array Value} (hw : ∀ d ∈ tables_1, d.before a0 Z = true) : (Jvm.Cond.code ({ cls := "com/example/schenley/schenley/IdentifierEqualsPinLaw", name := "firstPlain", desc := "(I)C" } : Jvm.MethodName) method_3_code (2 : Nat) (Option.some Jvm.ClassFile.FieldType.char)).before a0 Z = true := hw _ (List.mem_of_getElem? (i := 3) rfl)
theorem w5 {Z : State} {a0 : Array Value} (hw : ∀ d ∈ tables_1, d.before a0 Z = true) : (Jvm.Cond.methodLink "com/example/schenley/schenley/IdentifierEqualsPinLaw" (19 : Nat) ({ cls := "com/example/schenley/schenley/IdentifierEqualsPinLaw", name := "anyPlain", desc := "(I)C" } : Jvm.MethodName)).before a0 Z = true := hw _ (List.mem_of_getElem? (i := 5) rfl)
theorem w6 {Z : State} {a0 : Array Value} (hw : ∀ d ∈ tables_1, d.before a0 Z = true) : (Jvm.Cond.static ({ cls := "com/example/schenley/schenley/IdentifierEqualsPinLaw", name := "anyPlain", desc := "(I)C" } : Jvm.MethodName)).before a0 Z = true := hw _ (List.mem_of_getElem? (i := 6) rfl)
theorem w7 {Z : State} {a0 : Array Value} (hw : ∀ d ∈ tables_1, d.before a0 Z = true) : (Jvm.Cond.code ({ cls := "com/example/schenley/schenley/IdentifierEqualsPinLaw", name := "anyPlain", desc := "(I)C" } : Jvm.MethodName) method_2_code (2 : Nat) (Option.some Jvm.ClassFile.FieldType.char)).before a0 Z = true := hw _ (List.mem_of_getElem? (i := 7) rfl)
theorem pd_8 : parseMethodDescriptor "(ICCC)Ljava/lang/String;" = some ⟨[.int, .char, .char, .char], some (.object "java/lang/String")⟩ := by decide +kernel
theorem w8 {Z : State} {a0 : Array Value} (hw : ∀ d ∈ tables_1, d.before a0 Z = true) : (Jvm.Cond.methodLink "com/example/schenley/schenley/IdentifierEqualsPinLaw" (22 : Nat) ({ cls := "com/example/schenley/schenley/IdentifierEqualsPinLaw", name := "spell", desc := "(ICCC)Ljava/lang/String;" } : Jvm.MethodName)).before a0 Z = true := hw _ (List.mem_of_getElem? (i := 8) rfl)
theorem w9 {Z : State} {a0 : Array Value} (hw : ∀ d ∈ tables_1, d.before a0 Z = true) : (Jvm.Cond.static ({ cls := "com/example/schenley/schenley/IdentifierEqualsPinLaw", name := "spell", desc := "(ICCC)Ljava/lang/String;" } : Jvm.MethodName)).before a0 Z = true := hw _ (List.mem_of_getElem? (i := 9) rfl)
theorem w10 {Z : State} {a0 : Array Value} (hw : ∀ d ∈ tables_1, d.before a0 Z = true) : (Jvm.Cond.code ({ cls := "com/example/schenley/schenley/IdentifierEqualsPinLaw", name := "spell", desc := "(ICCC)Ljava/lang/String;" } : Jvm.MethodName) method_4_code (4 : Nat) (Option.some (Jvm.ClassFile.FieldType.object "java/lang/String"))).before a0 Z = true := hw _ (List.mem_of_getElem? (i := 10) rfl)
theorem w41 {Z : State} {a0 : Array Value} (hw : ∀ d ∈ tables_1, d.before a0 Z = true) : (Jvm.Cond.classLink "com/example/schenley/schenley/IdentifierEqualsPinLaw" (26 : Nat) "com/example/schenley/schenley/Identifier").before a0 Z = true := hw _ (List.mem_of_getElem? (i := 41) rfl)
theorem pd_9 : parseMethodDescriptor "(Ljava/lang/String;)V" = some ⟨[(.object "java/lang/String")], none⟩ := by decide +kernel
theorem w44 {Z : State} {a0 : Array Value} (hw : ∀ d ∈ tables_1, d.before a0 Z = true) : (Jvm.Cond.methodLink "com/example/schenley/schenley/IdentifierEqualsPinLaw" (28 : Nat) ({ cls := "com/example/schenley/schenley/Identifier", name := "<init>", desc := "(Ljava/lang/String;)V" } : Jvm.MethodName)).before a0 Z = true := hw _ (List.mem_of_getElem? (i := 44) rfl)
theorem w45 {Z : State} {a0 : Array Value} (hw : ∀ d ∈ tables_1, d.before a0 Z = true) : (Jvm.Cond.instanceMethod ({ cls := "com/example/schenley/schenley/Identifier", name := "<init>", desc := "(Ljava/lang/String;)V" } : Jvm.MethodName)).before a0 Z = true := hw _ (List.mem_of_getElem? (i := 45) rfl)
theorem w46 {Z : State} {a0 : Array Value} (hw : ∀ d ∈ tables_1, d.before a0 Z = true) : (Jvm.Cond.code ({ cls := "com/example/schenley/schenley/Identifier", name := "<init>", desc := "(Ljava/lang/String;)V" } : Jvm.MethodName) prog_10_method_1_code (3 : Nat) (Option.none : Option Jvm.ClassFile.FieldType)).before a0 Z = true := hw _ (List.mem_of_getElem? (i := 46) rfl)
theorem w108 {Z : State} {a0 : Array Value} (hw : ∀ d ∈ tables_1, d.before a0 Z = true) : (Jvm.Cond.selects "com/example/schenley/schenley/Identifier" ({ cls := "com/example/schenley/schenley/Identifier", name := "equals", desc := "(Ljava/lang/Object;)Z" } : Jvm.MethodName) ({ cls := "com/example/schenley/schenley/Identifier", name := "equals", desc := "(Ljava/lang/Object;)Z" } : Jvm.MethodName)).before a0 Z = true := hw _ (List.mem_of_getElem? (i := 108) rfl)
theorem w105 {Z : State} {a0 : Array Value} (hw : ∀ d ∈ tables_1, d.before a0 Z = true) : (Jvm.Cond.methodLink "com/example/schenley/schenley/IdentifierEqualsPinLaw" (31 : Nat) ({ cls := "com/example/schenley/schenley/Identifier", name := "equals", desc := "(Ljava/lang/Object;)Z" } : Jvm.MethodName)).before a0 Z = true := hw _ (List.mem_of_getElem? (i := 105) rfl)
theorem w106 {Z : State} {a0 : Array Value} (hw : ∀ d ∈ tables_1, d.before a0 Z = true) : (Jvm.Cond.declares ({ cls := "com/example/schenley/schenley/Identifier", name := "equals", desc := "(Ljava/lang/Object;)Z" } : Jvm.MethodName)).before a0 Z = true := hw _ (List.mem_of_getElem? (i := 106) rfl)
theorem w107 {Z : State} {a0 : Array Value} (hw : ∀ d ∈ tables_1, d.before a0 Z = true) : (Jvm.Cond.instanceMethod ({ cls := "com/example/schenley/schenley/Identifier", name := "equals", desc := "(Ljava/lang/Object;)Z" } : Jvm.MethodName)).before a0 Z = true := hw _ (List.mem_of_getElem? (i := 107) rfl)
theorem w109 {Z : State} {a0 : Array Value} (hw : ∀ d ∈ tables_1, d.before a0 Z = true) : (Jvm.Cond.code ({ cls := "com/example/schenley/schenley/Identifier", name := "equals", desc := "(Ljava/lang/Object;)Z" } : Jvm.MethodName) prog_10_method_3_code (3 : Nat) (Option.some Jvm.ClassFile.FieldType.boolean)).before a0 Z = true := hw _ (List.mem_of_getElem? (i := 109) rfl)
set_option maxRecDepth 65536 in
set_option maxHeartbeats 40000000 in
theorem rm0 (l : Launch) (Z : State) (a0 : Array Value) (hw : ∀ d ∈ tables_1, d.before a0 Z = true) (ws : List Jvm.Cond) (h0 : Heap) (p1 p2 p3 p4 p5 p6 : Int32) (cz : Int32) (fm : Value) (n0 : Nat) (SC : Sta Z Z.heap "java/lang/String" "COMPACT_STRINGS" "Z" (.int cz)) (hcz : ¬ cz = 0) (SF : Sta Z Z.heap "jdk/internal/util/Preconditions" "SIOOBE_FORMATTER" "Ljava/util/function/BiFunction;" fm) (rf : fm.isRef = true) (O0 : Old Z n0 h0) : ConW l Z x code maxLocals ret ws room_1 32 1152 #[(.int p1), (.int p2), (.int p3), (.int p4), (.int p5), (.int p6)] h0 (fun v h L => v = some (.int 1) ∧ Fr n0 L) := by
  refine ConW.intro (plainFor_of_name pn_0) ?_
  intro p e s m below meth c s₁ X0 hx hby hml hZ hown hnm hret hlk e0 hs0
  refine Gl.of (fun _ kq_ => castTop (ef_15 m p1 p2 p3 p4 p5 p6) kq_) ?_
  have hS0 := (State.WarmedH.refl s).since 0
  have hk0 : 0 ≤ h0.size := Nat.zero_le _
  show Gl p e below _ (s₁.setTop (mkF m 0 #[.val (.int p1), .val (.int p2), .val (.int p3), .val (.int p4), .val (.int p5), .val (.int p6), .unset, .unset, .unset, .unset, .unset, .unset, .unset, .unset, .unset, .unset, .unset, .unset, .unset, .unset, .unset, .unset, .unset] []))
  refine Gl.of (fun _ kq_ => XS.iconst X0.here hx rfl (hb hby at_0) kq_) ?_
  show Gl p e below _ (s₁.setTop (mkF m 1 #[.val (.int p1), .val (.int p2), .val (.int p3), .val (.int p4), .val (.int p5), .val (.int p6), .unset, .unset, .unset, .unset, .unset, .unset, .unset, .unset, .unset, .unset, .unset, .unset, .unset, .unset, .unset, .unset, .unset] [(.int (1 : Int32))]))
  refine Gl.of (fun _ kq_ => XS.iload X0.here hx rfl (hb hby at_1) rfl kq_) ?_
  show Gl p e below _ (s₁.setTop (mkF m 3 #[.val (.int p1), .val (.int p2), .val (.int p3), .val (.int p4), .val (.int p5), .val (.int p6), .unset, .unset, .unset, .unset, .unset, .unset, .unset, .unset, .unset, .unset, .unset, .unset, .unset, .unset, .unset, .unset, .unset] [(.int p6), (.int (1 : Int32))]))
  refine Gl.of (fun _ kq_ => XS.iconst X0.here hx rfl (hb hby at_3) kq_) ?_
  show Gl p e below _ (s₁.setTop (mkF m 4 #[.val (.int p1), .val (.int p2), .val (.int p3), .val (.int p4), .val (.int p5), .val (.int p6), .unset, .unset, .unset, .unset, .unset, .unset, .unset, .unset, .unset, .unset, .unset, .unset, .unset, .unset, .unset, .unset, .unset] [(.int (3 : Int32)), (.int p6), (.int (1 : Int32))]))
  refine Gl.of (fun _ kq_ => XS.iand X0.here hx rfl (hb hby at_4) rfl kq_) ?_
  show Gl p e below _ (s₁.setTop (mkF m 5 #[.val (.int p1), .val (.int p2), .val (.int p3), .val (.int p4), .val (.int p5), .val (.int p6), .unset, .unset, .unset, .unset, .unset, .unset, .unset, .unset, .unset, .unset, .unset, .unset, .unset, .unset, .unset, .unset, .unset] [(.int (p6 &&& (3 : Int32))), (.int (1 : Int32))]))
  refine Gl.of (fun _ kq_ => XS.iconst X0.here hx rfl (hb hby at_5) kq_) ?_
  show Gl p e below _ (s₁.setTop (mkF m 6 #[.val (.int p1), .val (.int p2), .val (.int p3), .val (.int p4), .val (.int p5), .val (.int p6), .unset, .unset, .unset, .unset, .unset, .unset, .unset, .unset, .unset, .unset, .unset, .unset, .unset, .unset, .unset, .unset, .unset] [(.int (3 : Int32)), (.int (p6 &&& (3 : Int32))), (.int (1 : Int32))]))
  refine Gl.of (fun _ kq_ => iremM X0 hx rfl (hb hby at_6) rfl (by decide) kq_) ?_
  show Gl p e below _ (s₁.setTop (mkF m 7 #[.val (.int p1), .val (.int p2), .val (.int p3), .val (.int p4), .val (.int p5), .val (.int p6), .unset, .unset, .unset, .unset, .unset, .unset, .unset, .unset, .unset, .unset, .unset, .unset, .unset, .unset, .unset, .unset, .unset] [(.int ((p6 &&& (3 : Int32)) % (3 : Int32))), (.int (1 : Int32))]))
  refine Gl.of (fun _ kq_ => XS.iadd X0.here hx rfl (hb hby at_7) rfl kq_) ?_
  show Gl p e below _ (s₁.setTop (mkF m 8 #[.val (.int p1), .val (.int p2), .val (.int p3), .val (.int p4), .val (.int p5), .val (.int p6), .unset, .unset, .unset, .unset, .unset, .unset, .unset, .unset, .unset, .unset, .unset, .unset, .unset, .unset, .unset, .unset, .unset] [(.int ((1 : Int32) + ((p6 &&& (3 : Int32)) % (3 : Int32))))]))
  refine Gl.of (fun _ kq_ => XS.istore X0.here hx rfl (hb hby at_8) rfl (l' := #[.val (.int p1), .val (.int p2), .val (.int p3), .val (.int p4), .val (.int p5), .val (.int p6), .val (.int ((1 : Int32) + ((p6 &&& (3 : Int32)) % (3 : Int32)))), .unset, .unset, .unset, .unset, .unset, .unset, .unset, .unset, .unset, .unset, .unset, .unset, .unset, .unset, .unset, .unset]) rfl kq_) ?_
  show Gl p e below _ (s₁.setTop (mkF m 10 #[.val (.int p1), .val (.int p2), .val (.int p3), .val (.int p4), .val (.int p5), .val (.int p6), .val (.int ((1 : Int32) + ((p6 &&& (3 : Int32)) % (3 : Int32)))), .unset, .unset, .unset, .unset, .unset, .unset, .unset, .unset, .unset, .unset, .unset, .unset, .unset, .unset, .unset, .unset] []))
  suffices J10 : ∀ l1 : Int32, own_l l1 → Gl p e below (GdW s (fun v h L => v = some (.int 1) ∧ Fr n0 L) 32 1152) (s₁.setTop (mkF m 10 #[.val (.int p1), .val (.int p2), .val (.int p3), .val (.int p4), .val (.int p5), .val (.int p6), .val (.int l1), .unset, .unset, .unset, .unset, .unset, .unset, .unset, .unset, .unset, .unset, .unset, .unset, .unset, .unset, .unset, .unset] [])) from J10 _ (own_l3 _)
  intro l1 hl1
  have J36 : ∀ (T1 : State), Stand p l e room_1 s m #[(.int p1), (.int p2), (.int p3), (.int p4), (.int p5), (.int p6)] below meth c T1 [] 0 0 → T1.heap = h0 → ∀ l2 : Int32, (own_l l2) → Gl p e below (GdW s (fun v h L => v = some (.int 1) ∧ Fr n0 L) 32 1152) (T1.setTop (mkF m 36 #[.val (.int p1), .val (.int p2), .val (.int p3), .val (.int p4), .val (.int p5), .val (.int p6), .val (.int l1), .unset, .unset, .unset, .unset, .unset, .unset, .unset, .unset, .unset, .unset, .unset, .unset, .unset, .unset, .unset, .unset] [(.int l2)])) := by
    intro T1 X1 e1 l2 hl2
    show Gl p e below _ (T1.setTop (mkF m 36 #[.val (.int p1), .val (.int p2), .val (.int p3), .val (.int p4), .val (.int p5), .val (.int p6), .val (.int l1), .unset, .unset, .unset, .unset, .unset, .unset, .unset, .unset, .unset, .unset, .unset, .unset, .unset, .unset, .unset, .unset] [(.int l2)]))
    refine Gl.of (fun _ kq_ => XS.istore X1.here hx rfl (hb hby at_36) rfl (l' := #[.val (.int p1), .val (.int p2), .val (.int p3), .val (.int p4), .val (.int p5), .val (.int p6), .val (.int l1), .val (.int l2), .unset, .unset, .unset, .unset, .unset, .unset, .unset, .unset, .unset, .unset, .unset, .unset, .unset, .unset, .unset]) rfl kq_) ?_
    show Gl p e below _ (T1.setTop (mkF m 38 #[.val (.int p1), .val (.int p2), .val (.int p3), .val (.int p4), .val (.int p5), .val (.int p6), .val (.int l1), .val (.int l2), .unset, .unset, .unset, .unset, .unset, .unset, .unset, .unset, .unset, .unset, .unset, .unset, .unset, .unset, .unset] []))
    refine Gl.of (fun _ kq_ => XS.iloadN X1.here hx rfl (hb hby at_38) rfl kq_) ?_
    show Gl p e below _ (T1.setTop (mkF m 39 #[.val (.int p1), .val (.int p2), .val (.int p3), .val (.int p4), .val (.int p5), .val (.int p6), .val (.int l1), .val (.int l2), .unset, .unset, .unset, .unset, .unset, .unset, .unset, .unset, .unset, .unset, .unset, .unset, .unset, .unset, .unset] [(.int p1)]))
    refine Gl.callS0 X1 hx hZ (y := (⟨"com/example/schenley/schenley/IdentifierEqualsPinLaw", "firstPlain", "(I)C"⟩ : MethodName)) hown (w0 hw) (w1 hw) (w2 hw) (w3 hw) (desc_ne (by decide)) (argsL := [(.int p1)]) (rest := []) (rm1 l Z a0 hw _ p1) 0 (by decide) (by decide) e1 (pc := 39) (Ls := #[.val (.int p1), .val (.int p2), .val (.int p3), .val (.int p4), .val (.int p5), .val (.int p6), .val (.int l1), .val (.int l2), .unset, .unset, .unset, .unset, .unset, .unset, .unset, .unset, .unset, .unset, .unset, .unset, .unset, .unset, .unset]) (st := [(.int p1)]) (by rw [hml]; rfl) pd_6 rfl rfl (Nat.le_of_eq rfl) (hb hby at_39) (by decide) (by decide) ?_
    intro v2 T2 X2 e2 hv2
    obtain ⟨f2, rfl, hf2⟩ := hv2
    show Gl p e below _ (T2.setTop (mkF m 42 #[.val (.int p1), .val (.int p2), .val (.int p3), .val (.int p4), .val (.int p5), .val (.int p6), .val (.int l1), .val (.int l2), .unset, .unset, .unset, .unset, .unset, .unset, .unset, .unset, .unset, .unset, .unset, .unset, .unset, .unset, .unset] [(.int f2)]))
    refine Gl.of (fun _ kq_ => XS.istore X2.here hx rfl (hb hby at_42) rfl (l' := #[.val (.int p1), .val (.int p2), .val (.int p3), .val (.int p4), .val (.int p5), .val (.int p6), .val (.int l1), .val (.int l2), .val (.int f2), .unset, .unset, .unset, .unset, .unset, .unset, .unset, .unset, .unset, .unset, .unset, .unset, .unset, .unset]) rfl kq_) ?_
    show Gl p e below _ (T2.setTop (mkF m 44 #[.val (.int p1), .val (.int p2), .val (.int p3), .val (.int p4), .val (.int p5), .val (.int p6), .val (.int l1), .val (.int l2), .val (.int f2), .unset, .unset, .unset, .unset, .unset, .unset, .unset, .unset, .unset, .unset, .unset, .unset, .unset, .unset] []))
    refine Gl.of (fun _ kq_ => XS.iloadN X2.here hx rfl (hb hby at_44) rfl kq_) ?_
    show Gl p e below _ (T2.setTop (mkF m 45 #[.val (.int p1), .val (.int p2), .val (.int p3), .val (.int p4), .val (.int p5), .val (.int p6), .val (.int l1), .val (.int l2), .val (.int f2), .unset, .unset, .unset, .unset, .unset, .unset, .unset, .unset, .unset, .unset, .unset, .unset, .unset, .unset] [(.int p2)]))
    refine Gl.callS0 X2 hx hZ (y := (⟨"com/example/schenley/schenley/IdentifierEqualsPinLaw", "anyPlain", "(I)C"⟩ : MethodName)) hown (w5 hw) (w6 hw) (w2 hw) (w7 hw) (desc_ne (by decide)) (argsL := [(.int p2)]) (rest := []) (rm2 l Z a0 hw _ p2) 0 (by decide) (by decide) e2 (pc := 45) (Ls := #[.val (.int p1), .val (.int p2), .val (.int p3), .val (.int p4), .val (.int p5), .val (.int p6), .val (.int l1), .val (.int l2), .val (.int f2), .unset, .unset, .unset, .unset, .unset, .unset, .unset, .unset, .unset, .unset, .unset, .unset, .unset, .unset]) (st := [(.int p2)]) (by rw [hml]; rfl) pd_6 rfl rfl (Nat.le_of_eq rfl) (hb hby at_45) (by decide) (by decide) ?_
    intro v3 T3 X3 e3 hv3
    obtain ⟨g3, rfl, hg3⟩ := hv3
    show Gl p e below _ (T3.setTop (mkF m 48 #[.val (.int p1), .val (.int p2), .val (.int p3), .val (.int p4), .val (.int p5), .val (.int p6), .val (.int l1), .val (.int l2), .val (.int f2), .unset, .unset, .unset, .unset, .unset, .unset, .unset, .unset, .unset, .unset, .unset, .unset, .unset, .unset] [(.int g3)]))
    refine Gl.of (fun _ kq_ => XS.istore X3.here hx rfl (hb hby at_48) rfl (l' := #[.val (.int p1), .val (.int p2), .val (.int p3), .val (.int p4), .val (.int p5), .val (.int p6), .val (.int l1), .val (.int l2), .val (.int f2), .val (.int g3), .unset, .unset, .unset, .unset, .unset, .unset, .unset, .unset, .unset, .unset, .unset, .unset, .unset]) rfl kq_) ?_
    show Gl p e below _ (T3.setTop (mkF m 50 #[.val (.int p1), .val (.int p2), .val (.int p3), .val (.int p4), .val (.int p5), .val (.int p6), .val (.int l1), .val (.int l2), .val (.int f2), .val (.int g3), .unset, .unset, .unset, .unset, .unset, .unset, .unset, .unset, .unset, .unset, .unset, .unset, .unset] []))
    refine Gl.of (fun _ kq_ => XS.iloadN X3.here hx rfl (hb hby at_50) rfl kq_) ?_
    show Gl p e below _ (T3.setTop (mkF m 51 #[.val (.int p1), .val (.int p2), .val (.int p3), .val (.int p4), .val (.int p5), .val (.int p6), .val (.int l1), .val (.int l2), .val (.int f2), .val (.int g3), .unset, .unset, .unset, .unset, .unset, .unset, .unset, .unset, .unset, .unset, .unset, .unset, .unset] [(.int p3)]))
    refine Gl.callS0 X3 hx hZ (y := (⟨"com/example/schenley/schenley/IdentifierEqualsPinLaw", "anyPlain", "(I)C"⟩ : MethodName)) hown (w5 hw) (w6 hw) (w2 hw) (w7 hw) (desc_ne (by decide)) (argsL := [(.int p3)]) (rest := []) (rm2 l Z a0 hw _ p3) 0 (by decide) (by decide) e3 (pc := 51) (Ls := #[.val (.int p1), .val (.int p2), .val (.int p3), .val (.int p4), .val (.int p5), .val (.int p6), .val (.int l1), .val (.int l2), .val (.int f2), .val (.int g3), .unset, .unset, .unset, .unset, .unset, .unset, .unset, .unset, .unset, .unset, .unset, .unset, .unset]) (st := [(.int p3)]) (by rw [hml]; rfl) pd_6 rfl rfl (Nat.le_of_eq rfl) (hb hby at_51) (by decide) (by decide) ?_
    intro v4 T4 X4 e4 hv4
    obtain ⟨g4, rfl, hg4⟩ := hv4
    show Gl p e below _ (T4.setTop (mkF m 54 #[.val (.int p1), .val (.int p2), .val (.int p3), .val (.int p4), .val (.int p5), .val (.int p6), .val (.int l1), .val (.int l2), .val (.int f2), .val (.int g3), .unset, .unset, .unset, .unset, .unset, .unset, .unset, .unset, .unset, .unset, .unset, .unset, .unset] [(.int g4)]))
    refine Gl.of (fun _ kq_ => XS.istore X4.here hx rfl (hb hby at_54) rfl (l' := #[.val (.int p1), .val (.int p2), .val (.int p3), .val (.int p4), .val (.int p5), .val (.int p6), .val (.int l1), .val (.int l2), .val (.int f2), .val (.int g3), .val (.int g4), .unset, .unset, .unset, .unset, .unset, .unset, .unset, .unset, .unset, .unset, .unset, .unset]) rfl kq_) ?_
    have J74 : ∀ (T5 : State), Stand p l e room_1 s m #[(.int p1), (.int p2), (.int p3), (.int p4), (.int p5), (.int p6)] below meth c T5 [] 0 0 → T5.heap = h0 → ∀ y0 : Int32, (own_fst y0) → Gl p e below (GdW s (fun v h L => v = some (.int 1) ∧ Fr n0 L) 32 1152) (T5.setTop (mkF m 74 #[.val (.int p1), .val (.int p2), .val (.int p3), .val (.int p4), .val (.int p5), .val (.int p6), .val (.int l1), .val (.int l2), .val (.int f2), .val (.int g3), .val (.int g4), .unset, .unset, .unset, .unset, .unset, .unset, .unset, .unset, .unset, .unset, .unset, .unset] [(.int y0)])) := by
      intro T5 X5 e5 y0 hy0
      show Gl p e below _ (T5.setTop (mkF m 74 #[.val (.int p1), .val (.int p2), .val (.int p3), .val (.int p4), .val (.int p5), .val (.int p6), .val (.int l1), .val (.int l2), .val (.int f2), .val (.int g3), .val (.int g4), .unset, .unset, .unset, .unset, .unset, .unset, .unset, .unset, .unset, .unset, .unset, .unset] [(.int y0)]))
      refine Gl.of (fun _ kq_ => XS.istore X5.here hx rfl (hb hby at_74) rfl (l' := #[.val (.int p1), .val (.int p2), .val (.int p3), .val (.int p4), .val (.int p5), .val (.int p6), .val (.int l1), .val (.int l2), .val (.int f2), .val (.int g3), .val (.int g4), .val (.int y0), .unset, .unset, .unset, .unset, .unset, .unset, .unset, .unset, .unset, .unset, .unset]) rfl kq_) ?_
      have J95 : ∀ (T6 : State), Stand p l e room_1 s m #[(.int p1), (.int p2), (.int p3), (.int p4), (.int p5), (.int p6)] below meth c T6 [] 0 0 → T6.heap = h0 → ∀ y1 : Int32, (own_any y1) → Gl p e below (GdW s (fun v h L => v = some (.int 1) ∧ Fr n0 L) 32 1152) (T6.setTop (mkF m 95 #[.val (.int p1), .val (.int p2), .val (.int p3), .val (.int p4), .val (.int p5), .val (.int p6), .val (.int l1), .val (.int l2), .val (.int f2), .val (.int g3), .val (.int g4), .val (.int y0), .unset, .unset, .unset, .unset, .unset, .unset, .unset, .unset, .unset, .unset, .unset] [(.int y1)])) := by
        intro T6 X6 e6 y1 hy1
        show Gl p e below _ (T6.setTop (mkF m 95 #[.val (.int p1), .val (.int p2), .val (.int p3), .val (.int p4), .val (.int p5), .val (.int p6), .val (.int l1), .val (.int l2), .val (.int f2), .val (.int g3), .val (.int g4), .val (.int y0), .unset, .unset, .unset, .unset, .unset, .unset, .unset, .unset, .unset, .unset, .unset] [(.int y1)]))
        refine Gl.of (fun _ kq_ => XS.istore X6.here hx rfl (hb hby at_95) rfl (l' := #[.val (.int p1), .val (.int p2), .val (.int p3), .val (.int p4), .val (.int p5), .val (.int p6), .val (.int l1), .val (.int l2), .val (.int f2), .val (.int g3), .val (.int g4), .val (.int y0), .val (.int y1), .unset, .unset, .unset, .unset, .unset, .unset, .unset, .unset, .unset, .unset]) rfl kq_) ?_
        have J119 : ∀ (T7 : State), Stand p l e room_1 s m #[(.int p1), (.int p2), (.int p3), (.int p4), (.int p5), (.int p6)] below meth c T7 [] 0 0 → T7.heap = h0 → ∀ y2 : Int32, (own_any y2) → Gl p e below (GdW s (fun v h L => v = some (.int 1) ∧ Fr n0 L) 32 1152) (T7.setTop (mkF m 119 #[.val (.int p1), .val (.int p2), .val (.int p3), .val (.int p4), .val (.int p5), .val (.int p6), .val (.int l1), .val (.int l2), .val (.int f2), .val (.int g3), .val (.int g4), .val (.int y0), .val (.int y1), .unset, .unset, .unset, .unset, .unset, .unset, .unset, .unset, .unset, .unset] [(.int y2)])) := by
          intro T7 X7 e7 y2 hy2
          show Gl p e below _ (T7.setTop (mkF m 119 #[.val (.int p1), .val (.int p2), .val (.int p3), .val (.int p4), .val (.int p5), .val (.int p6), .val (.int l1), .val (.int l2), .val (.int f2), .val (.int g3), .val (.int g4), .val (.int y0), .val (.int y1), .unset, .unset, .unset, .unset, .unset, .unset, .unset, .unset, .unset, .unset] [(.int y2)]))
          refine Gl.of (fun _ kq_ => XS.istore X7.here hx rfl (hb hby at_119) rfl (l' := #[.val (.int p1), .val (.int p2), .val (.int p3), .val (.int p4), .val (.int p5), .val (.int p6), .val (.int l1), .val (.int l2), .val (.int f2), .val (.int g3), .val (.int g4), .val (.int y0), .val (.int y1), .val (.int y2), .unset, .unset, .unset, .unset, .unset, .unset, .unset, .unset, .unset]) rfl kq_) ?_
          show Gl p e below _ (T7.setTop (mkF m 121 #[.val (.int p1), .val (.int p2), .val (.int p3), .val (.int p4), .val (.int p5), .val (.int p6), .val (.int l1), .val (.int l2), .val (.int f2), .val (.int g3), .val (.int g4), .val (.int y0), .val (.int y1), .val (.int y2), .unset, .unset, .unset, .unset, .unset, .unset, .unset, .unset, .unset] []))
          refine Gl.of (fun _ kq_ => XS.iload X7.here hx rfl (hb hby at_121) rfl kq_) ?_
          show Gl p e below _ (T7.setTop (mkF m 123 #[.val (.int p1), .val (.int p2), .val (.int p3), .val (.int p4), .val (.int p5), .val (.int p6), .val (.int l1), .val (.int l2), .val (.int f2), .val (.int g3), .val (.int g4), .val (.int y0), .val (.int y1), .val (.int y2), .unset, .unset, .unset, .unset, .unset, .unset, .unset, .unset, .unset] [(.int l1)]))
          refine Gl.of (fun _ kq_ => XS.iload X7.here hx rfl (hb hby at_123) rfl kq_) ?_
          show Gl p e below _ (T7.setTop (mkF m 125 #[.val (.int p1), .val (.int p2), .val (.int p3), .val (.int p4), .val (.int p5), .val (.int p6), .val (.int l1), .val (.int l2), .val (.int f2), .val (.int g3), .val (.int g4), .val (.int y0), .val (.int y1), .val (.int y2), .unset, .unset, .unset, .unset, .unset, .unset, .unset, .unset, .unset] [(.int f2), (.int l1)]))
          refine Gl.of (fun _ kq_ => XS.iload X7.here hx rfl (hb hby at_125) rfl kq_) ?_
          show Gl p e below _ (T7.setTop (mkF m 127 #[.val (.int p1), .val (.int p2), .val (.int p3), .val (.int p4), .val (.int p5), .val (.int p6), .val (.int l1), .val (.int l2), .val (.int f2), .val (.int g3), .val (.int g4), .val (.int y0), .val (.int y1), .val (.int y2), .unset, .unset, .unset, .unset, .unset, .unset, .unset, .unset, .unset] [(.int g3), (.int f2), (.int l1)]))
          refine Gl.of (fun _ kq_ => XS.iload X7.here hx rfl (hb hby at_127) rfl kq_) ?_
          show Gl p e below _ (T7.setTop (mkF m 129 #[.val (.int p1), .val (.int p2), .val (.int p3), .val (.int p4), .val (.int p5), .val (.int p6), .val (.int l1), .val (.int l2), .val (.int f2), .val (.int g3), .val (.int g4), .val (.int y0), .val (.int y1), .val (.int y2), .unset, .unset, .unset, .unset, .unset, .unset, .unset, .unset, .unset] [(.int g4), (.int g3), (.int f2), (.int l1)]))
          refine Gl.callS X7 hx hZ (y := (⟨"com/example/schenley/schenley/IdentifierEqualsPinLaw", "spell", "(ICCC)Ljava/lang/String;"⟩ : MethodName)) hown (w8 hw) (w9 hw) (w2 hw) (w10 hw) (desc_ne (by decide)) (rm := { frames := 4, cells := 3, slots := 10, locals := 66 }) (argsL := [(.int l1), (.int f2), (.int g3), (.int g4)]) (rest := []) (rm3 l Z a0 hw _ l1 f2 g3 g4 cz n0 (own_fa hf2) hg3 hg4 SC hcz O0) 0 (by decide) (by decide) (by decide) (by decide) e7 (pc := 129) (Ls := #[.val (.int p1), .val (.int p2), .val (.int p3), .val (.int p4), .val (.int p5), .val (.int p6), .val (.int l1), .val (.int l2), .val (.int f2), .val (.int g3), .val (.int g4), .val (.int y0), .val (.int y1), .val (.int y2), .unset, .unset, .unset, .unset, .unset, .unset, .unset, .unset, .unset]) (st := [(.int g4), (.int g3), (.int f2), (.int l1)]) (by rw [hml]; rfl) pd_8 rfl rfl (Nat.le_of_eq rfl) (hb hby at_129) ?_
          intro v8 T8 L8 X8 hQ8
          obtain ⟨x8_, t8_, kb8, rfl, SG8, Kq8, Nq8, Gx8_, Gt8_, H8x, H8t⟩ := hQ8
          have N8 := Fr.app (Fr.nil n0) Nq8
          have O8 := O0.keep Kq8 all0
          have hk8 := Nat.le_trans hk0 Kq8.1
          show Gl p e below _ (T8.setTop (mkF m 132 #[.val (.int p1), .val (.int p2), .val (.int p3), .val (.int p4), .val (.int p5), .val (.int p6), .val (.int l1), .val (.int l2), .val (.int f2), .val (.int g3), .val (.int g4), .val (.int y0), .val (.int y1), .val (.int y2), .unset, .unset, .unset, .unset, .unset, .unset, .unset, .unset, .unset] [(.ref x8_)]))
          refine Gl.of (fun _ kq_ => XS.astore X8.here hx rfl (hb hby at_132) rfl rfl (l' := #[.val (.int p1), .val (.int p2), .val (.int p3), .val (.int p4), .val (.int p5), .val (.int p6), .val (.int l1), .val (.int l2), .val (.int f2), .val (.int g3), .val (.int g4), .val (.int y0), .val (.int y1), .val (.int y2), .val (.ref x8_), .unset, .unset, .unset, .unset, .unset, .unset, .unset, .unset]) rfl kq_) ?_
          show Gl p e below _ (T8.setTop (mkF m 134 #[.val (.int p1), .val (.int p2), .val (.int p3), .val (.int p4), .val (.int p5), .val (.int p6), .val (.int l1), .val (.int l2), .val (.int f2), .val (.int g3), .val (.int g4), .val (.int y0), .val (.int y1), .val (.int y2), .val (.ref x8_), .unset, .unset, .unset, .unset, .unset, .unset, .unset, .unset] []))
          refine Gl.of (fun _ kq_ => XS.iload X8.here hx rfl (hb hby at_134) rfl kq_) ?_
          show Gl p e below _ (T8.setTop (mkF m 136 #[.val (.int p1), .val (.int p2), .val (.int p3), .val (.int p4), .val (.int p5), .val (.int p6), .val (.int l1), .val (.int l2), .val (.int f2), .val (.int g3), .val (.int g4), .val (.int y0), .val (.int y1), .val (.int y2), .val (.ref x8_), .unset, .unset, .unset, .unset, .unset, .unset, .unset, .unset] [(.int l2)]))
          refine Gl.of (fun _ kq_ => XS.iload X8.here hx rfl (hb hby at_136) rfl kq_) ?_
          show Gl p e below _ (T8.setTop (mkF m 138 #[.val (.int p1), .val (.int p2), .val (.int p3), .val (.int p4), .val (.int p5), .val (.int p6), .val (.int l1), .val (.int l2), .val (.int f2), .val (.int g3), .val (.int g4), .val (.int y0), .val (.int y1), .val (.int y2), .val (.ref x8_), .unset, .unset, .unset, .unset, .unset, .unset, .unset, .unset] [(.int y0), (.int l2)]))
          refine Gl.of (fun _ kq_ => XS.iload X8.here hx rfl (hb hby at_138) rfl kq_) ?_
          show Gl p e below _ (T8.setTop (mkF m 140 #[.val (.int p1), .val (.int p2), .val (.int p3), .val (.int p4), .val (.int p5), .val (.int p6), .val (.int l1), .val (.int l2), .val (.int f2), .val (.int g3), .val (.int g4), .val (.int y0), .val (.int y1), .val (.int y2), .val (.ref x8_), .unset, .unset, .unset, .unset, .unset, .unset, .unset, .unset] [(.int y1), (.int y0), (.int l2)]))
          refine Gl.of (fun _ kq_ => XS.iload X8.here hx rfl (hb hby at_140) rfl kq_) ?_
          show Gl p e below _ (T8.setTop (mkF m 142 #[.val (.int p1), .val (.int p2), .val (.int p3), .val (.int p4), .val (.int p5), .val (.int p6), .val (.int l1), .val (.int l2), .val (.int f2), .val (.int g3), .val (.int g4), .val (.int y0), .val (.int y1), .val (.int y2), .val (.ref x8_), .unset, .unset, .unset, .unset, .unset, .unset, .unset, .unset] [(.int y2), (.int y1), (.int y0), (.int l2)]))
          refine Gl.callS X8 hx hZ (y := (⟨"com/example/schenley/schenley/IdentifierEqualsPinLaw", "spell", "(ICCC)Ljava/lang/String;"⟩ : MethodName)) hown (w8 hw) (w9 hw) (w2 hw) (w10 hw) (desc_ne (by decide)) (rm := { frames := 4, cells := 3, slots := 10, locals := 66 }) (argsL := [(.int l2), (.int y0), (.int y1), (.int y2)]) (rest := []) (rm3 l Z a0 hw _ l2 y0 y1 y2 cz n0 (own_fa hy0) hy1 hy2 SC hcz O8) 0 (by decide) (by decide) (by decide) (by decide) rfl (pc := 142) (Ls := #[.val (.int p1), .val (.int p2), .val (.int p3), .val (.int p4), .val (.int p5), .val (.int p6), .val (.int l1), .val (.int l2), .val (.int f2), .val (.int g3), .val (.int g4), .val (.int y0), .val (.int y1), .val (.int y2), .val (.ref x8_), .unset, .unset, .unset, .unset, .unset, .unset, .unset, .unset]) (st := [(.int y2), (.int y1), (.int y0), (.int l2)]) (by rw [hml]; rfl) pd_8 rfl rfl (Nat.le_of_eq rfl) (hb hby at_142) ?_
          intro v9 T9 L9 X9 hQ9
          obtain ⟨x9_, t9_, kb9, rfl, SG9, Kq9, Nq9, Gx9_, Gt9_, H9x, H9t⟩ := hQ9
          have N9 := Fr.app N8 Nq9
          have ne_x8__x9_ : x8_ ≠ x9_ := Nat.ne_of_lt (Nat.lt_of_lt_of_le SG8.lt H9x)
          have ne_t8__x9_ : t8_ ≠ x9_ := Nat.ne_of_lt (Nat.lt_of_lt_of_le SG8.lt' H9x)
          have ne_x8__t9_ : x8_ ≠ t9_ := Nat.ne_of_lt (Nat.lt_of_lt_of_le SG8.lt H9t)
          have ne_t8__t9_ : t8_ ≠ t9_ := Nat.ne_of_lt (Nat.lt_of_lt_of_le SG8.lt' H9t)
          have gc10 := SG8.keep Kq9 (by simp) (by simp)
          have O9 := O8.keep Kq9 all0
          have hk9 := Nat.le_trans hk8 Kq9.1
          show Gl p e below _ (T9.setTop (mkF m 145 #[.val (.int p1), .val (.int p2), .val (.int p3), .val (.int p4), .val (.int p5), .val (.int p6), .val (.int l1), .val (.int l2), .val (.int f2), .val (.int g3), .val (.int g4), .val (.int y0), .val (.int y1), .val (.int y2), .val (.ref x8_), .unset, .unset, .unset, .unset, .unset, .unset, .unset, .unset] [(.ref x9_)]))
          refine Gl.of (fun _ kq_ => XS.astore X9.here hx rfl (hb hby at_145) rfl rfl (l' := #[.val (.int p1), .val (.int p2), .val (.int p3), .val (.int p4), .val (.int p5), .val (.int p6), .val (.int l1), .val (.int l2), .val (.int f2), .val (.int g3), .val (.int g4), .val (.int y0), .val (.int y1), .val (.int y2), .val (.ref x8_), .val (.ref x9_), .unset, .unset, .unset, .unset, .unset, .unset, .unset]) rfl kq_) ?_
          show Gl p e below _ (T9.setTop (mkF m 147 #[.val (.int p1), .val (.int p2), .val (.int p3), .val (.int p4), .val (.int p5), .val (.int p6), .val (.int l1), .val (.int l2), .val (.int f2), .val (.int g3), .val (.int g4), .val (.int y0), .val (.int y1), .val (.int y2), .val (.ref x8_), .val (.ref x9_), .unset, .unset, .unset, .unset, .unset, .unset, .unset] []))
          obtain ⟨T11, h11, X11, e11, E11, A11, D11, -, st11⟩ := newO X9 hx hZ hown (w41 hw) (w42 hw) (w43 hw) rfl (g := (mkF m 147 #[.val (.int p1), .val (.int p2), .val (.int p3), .val (.int p4), .val (.int p5), .val (.int p6), .val (.int l1), .val (.int l2), .val (.int f2), .val (.int g3), .val (.int g4), .val (.int y0), .val (.int y1), .val (.int y2), .val (.ref x8_), .val (.ref x9_), .unset, .unset, .unset, .unset, .unset, .unset, .unset] [])) rfl (hb hby at_147) (by decide) (by decide)
          obtain ⟨b11, g11⟩ : ∃ z, z = T9.heap.size := ⟨_, rfl⟩
          rw [← g11] at A11 D11 st11
          refine Gl.of st11 ?_
          have Gb11 : n0 ≤ b11 := Nat.le_trans (O9.1 ▸ O9.2.1) (Nat.le_of_eq g11.symm)
          have ne_x8__b11 : x8_ ≠ b11 := Nat.ne_of_lt (Nat.lt_of_lt_of_le gc10.lt (Nat.le_of_eq g11.symm))
          have ne_t8__b11 : t8_ ≠ b11 := Nat.ne_of_lt (Nat.lt_of_lt_of_le gc10.lt' (Nat.le_of_eq g11.symm))
          have ne_x9__b11 : x9_ ≠ b11 := Nat.ne_of_lt (Nat.lt_of_lt_of_le SG9.lt (Nat.le_of_eq g11.symm))
          have ne_t9__b11 : t9_ ≠ b11 := Nat.ne_of_lt (Nat.lt_of_lt_of_le SG9.lt' (Nat.le_of_eq g11.symm))
          have gc12 := gc10.ext E11
          have gc13 := SG9.ext E11
          have O11 := O9.ext E11
          have hk11 := Nat.le_trans hk9 E11.1
          have F11_name : Fld Z h11 b11 "com/example/schenley/schenley/Identifier" "name" "Ljava/lang/String;" .null := D11 (Or.inr (w104 hw)) (ty := (.object "java/lang/String")) (by decide)
          show Gl p e below _ (T11.setTop (mkF m 150 #[.val (.int p1), .val (.int p2), .val (.int p3), .val (.int p4), .val (.int p5), .val (.int p6), .val (.int l1), .val (.int l2), .val (.int f2), .val (.int g3), .val (.int g4), .val (.int y0), .val (.int y1), .val (.int y2), .val (.ref x8_), .val (.ref x9_), .unset, .unset, .unset, .unset, .unset, .unset, .unset] [(.ref b11)]))
          refine Gl.of (fun _ kq_ => XS.dup X11.here hx rfl (hb hby at_150) rfl rfl kq_) ?_
          show Gl p e below _ (T11.setTop (mkF m 151 #[.val (.int p1), .val (.int p2), .val (.int p3), .val (.int p4), .val (.int p5), .val (.int p6), .val (.int l1), .val (.int l2), .val (.int f2), .val (.int g3), .val (.int g4), .val (.int y0), .val (.int y1), .val (.int y2), .val (.ref x8_), .val (.ref x9_), .unset, .unset, .unset, .unset, .unset, .unset, .unset] [(.ref b11), (.ref b11)]))
          refine Gl.of (fun _ kq_ => XS.aload X11.here hx rfl (hb hby at_151) rfl rfl kq_) ?_
          show Gl p e below _ (T11.setTop (mkF m 153 #[.val (.int p1), .val (.int p2), .val (.int p3), .val (.int p4), .val (.int p5), .val (.int p6), .val (.int l1), .val (.int l2), .val (.int f2), .val (.int g3), .val (.int g4), .val (.int y0), .val (.int y1), .val (.int y2), .val (.ref x8_), .val (.ref x9_), .unset, .unset, .unset, .unset, .unset, .unset, .unset] [(.ref x8_), (.ref b11), (.ref b11)]))
          refine Gl.callIW X11 hx hZ hS0 hk11 (y := (⟨"com/example/schenley/schenley/Identifier", "<init>", "(Ljava/lang/String;)V"⟩ : MethodName)) rfl hown (w44 hw) (w45 hw) (w43 hw) (w46 hw) (desc_ne (by decide)) (rm := { frames := 4, cells := 2, slots := 20, locals := 53 }) (b := b11) (argsL := [(.ref x8_)]) (rest := [(.ref b11)]) (rmI l Z a0 hw _ b11 x8_ t8_ kb8 (own_sp l1 f2 g3 g4) cz fm n0 (own_oks hf2 hg3 hg4) A11 F11_name Gb11 gc12 ne_x8__b11 ne_t8__b11 SC hcz SF rf O11) 1 (by decide) (by decide) (by decide) (by decide) e11 (pc := 153) (Ls := #[.val (.int p1), .val (.int p2), .val (.int p3), .val (.int p4), .val (.int p5), .val (.int p6), .val (.int l1), .val (.int l2), .val (.int f2), .val (.int g3), .val (.int g4), .val (.int y0), .val (.int y1), .val (.int y2), .val (.ref x8_), .val (.ref x9_), .unset, .unset, .unset, .unset, .unset, .unset, .unset]) (st := [(.ref x8_), (.ref b11), (.ref b11)]) (by rw [hml]; rfl) pd_9 rfl rfl (Nat.le_of_eq rfl) (hb hby at_153) ?_
          intro v14 T14 L14 X14 hS14 hZ hown hQ14
          obtain ⟨rfl, Nq14, Kq14, F14a⟩ := hQ14
          have N14 := Fr.app N9 Nq14
          have gc15 := gc12.keep Kq14 (fun q => ne_x8__b11 (List.mem_singleton.mp q)) (fun q => ne_t8__b11 (List.mem_singleton.mp q))
          have gc16 := gc13.keep Kq14 (fun q => ne_x9__b11 (List.mem_singleton.mp q)) (fun q => ne_t9__b11 (List.mem_singleton.mp q))
          have ec17 := A11.keep Kq14
          have O14 := O11.keep Kq14 (allS Gb11 all0)
          have hk14 := Nat.le_trans hk11 Kq14.1
          show Gl p e below _ (T14.setTop (mkF m 156 #[.val (.int p1), .val (.int p2), .val (.int p3), .val (.int p4), .val (.int p5), .val (.int p6), .val (.int l1), .val (.int l2), .val (.int f2), .val (.int g3), .val (.int g4), .val (.int y0), .val (.int y1), .val (.int y2), .val (.ref x8_), .val (.ref x9_), .unset, .unset, .unset, .unset, .unset, .unset, .unset] [(.ref b11)]))
          refine Gl.of (fun _ kq_ => XS.astore X14.here hx rfl (hb hby at_156) rfl rfl (l' := #[.val (.int p1), .val (.int p2), .val (.int p3), .val (.int p4), .val (.int p5), .val (.int p6), .val (.int l1), .val (.int l2), .val (.int f2), .val (.int g3), .val (.int g4), .val (.int y0), .val (.int y1), .val (.int y2), .val (.ref x8_), .val (.ref x9_), .val (.ref b11), .unset, .unset, .unset, .unset, .unset, .unset]) rfl kq_) ?_
          show Gl p e below _ (T14.setTop (mkF m 158 #[.val (.int p1), .val (.int p2), .val (.int p3), .val (.int p4), .val (.int p5), .val (.int p6), .val (.int l1), .val (.int l2), .val (.int f2), .val (.int g3), .val (.int g4), .val (.int y0), .val (.int y1), .val (.int y2), .val (.ref x8_), .val (.ref x9_), .val (.ref b11), .unset, .unset, .unset, .unset, .unset, .unset] []))
          obtain ⟨T18, h18, X18, e18, E18, A18, D18, -, st18⟩ := newO X14 hx hZ hown (w41 hw) (w42 hw) (w43 hw) rfl (g := (mkF m 158 #[.val (.int p1), .val (.int p2), .val (.int p3), .val (.int p4), .val (.int p5), .val (.int p6), .val (.int l1), .val (.int l2), .val (.int f2), .val (.int g3), .val (.int g4), .val (.int y0), .val (.int y1), .val (.int y2), .val (.ref x8_), .val (.ref x9_), .val (.ref b11), .unset, .unset, .unset, .unset, .unset, .unset] [])) rfl (hb hby at_158) (by decide) (by decide)
          obtain ⟨b18, g18⟩ : ∃ z, z = T14.heap.size := ⟨_, rfl⟩
          rw [← g18] at A18 D18 st18
          refine Gl.of st18 ?_
          have Gb18 : n0 ≤ b18 := Nat.le_trans (O14.1 ▸ O14.2.1) (Nat.le_of_eq g18.symm)
          have ne_x8__b18 : x8_ ≠ b18 := Nat.ne_of_lt (Nat.lt_of_lt_of_le gc15.lt (Nat.le_of_eq g18.symm))
          have ne_t8__b18 : t8_ ≠ b18 := Nat.ne_of_lt (Nat.lt_of_lt_of_le gc15.lt' (Nat.le_of_eq g18.symm))
          have ne_x9__b18 : x9_ ≠ b18 := Nat.ne_of_lt (Nat.lt_of_lt_of_le gc16.lt (Nat.le_of_eq g18.symm))
          have ne_t9__b18 : t9_ ≠ b18 := Nat.ne_of_lt (Nat.lt_of_lt_of_le gc16.lt' (Nat.le_of_eq g18.symm))
          have ne_b11_b18 : b11 ≠ b18 := Nat.ne_of_lt (Nat.lt_of_lt_of_le ec17.lt (Nat.le_of_eq g18.symm))
          have gc19 := gc15.ext E18
          have gc20 := gc16.ext E18
          have ec21 := ec17.ext E18
          have fc22 := F14a.ext E18
          have O18 := O14.ext E18
          have hk18 := Nat.le_trans (Nat.le_refl _) E18.1
          have F18_name : Fld Z h18 b18 "com/example/schenley/schenley/Identifier" "name" "Ljava/lang/String;" .null := D18 (Or.inr (w104 hw)) (ty := (.object "java/lang/String")) (by decide)
          show Gl p e below _ (T18.setTop (mkF m 161 #[.val (.int p1), .val (.int p2), .val (.int p3), .val (.int p4), .val (.int p5), .val (.int p6), .val (.int l1), .val (.int l2), .val (.int f2), .val (.int g3), .val (.int g4), .val (.int y0), .val (.int y1), .val (.int y2), .val (.ref x8_), .val (.ref x9_), .val (.ref b11), .unset, .unset, .unset, .unset, .unset, .unset] [(.ref b18)]))
          refine Gl.of (fun _ kq_ => XS.dup X18.here hx rfl (hb hby at_161) rfl rfl kq_) ?_
          show Gl p e below _ (T18.setTop (mkF m 162 #[.val (.int p1), .val (.int p2), .val (.int p3), .val (.int p4), .val (.int p5), .val (.int p6), .val (.int l1), .val (.int l2), .val (.int f2), .val (.int g3), .val (.int g4), .val (.int y0), .val (.int y1), .val (.int y2), .val (.ref x8_), .val (.ref x9_), .val (.ref b11), .unset, .unset, .unset, .unset, .unset, .unset] [(.ref b18), (.ref b18)]))
          refine Gl.of (fun _ kq_ => XS.aload X18.here hx rfl (hb hby at_162) rfl rfl kq_) ?_
          show Gl p e below _ (T18.setTop (mkF m 164 #[.val (.int p1), .val (.int p2), .val (.int p3), .val (.int p4), .val (.int p5), .val (.int p6), .val (.int l1), .val (.int l2), .val (.int f2), .val (.int g3), .val (.int g4), .val (.int y0), .val (.int y1), .val (.int y2), .val (.ref x8_), .val (.ref x9_), .val (.ref b11), .unset, .unset, .unset, .unset, .unset, .unset] [(.ref x9_), (.ref b18), (.ref b18)]))
          refine Gl.callIW X18 hx hZ hS14 hk18 (y := (⟨"com/example/schenley/schenley/Identifier", "<init>", "(Ljava/lang/String;)V"⟩ : MethodName)) rfl hown (w44 hw) (w45 hw) (w43 hw) (w46 hw) (desc_ne (by decide)) (rm := { frames := 4, cells := 2, slots := 20, locals := 53 }) (b := b18) (argsL := [(.ref x9_)]) (rest := [(.ref b18)]) (rmI l Z a0 hw _ b18 x9_ t9_ kb9 (own_sp l2 y0 y1 y2) cz fm n0 (own_oks hy0 hy1 hy2) A18 F18_name Gb18 gc20 ne_x9__b18 ne_t9__b18 SC hcz SF rf O18) 1 (by decide) (by decide) (by decide) (by decide) e18 (pc := 164) (Ls := #[.val (.int p1), .val (.int p2), .val (.int p3), .val (.int p4), .val (.int p5), .val (.int p6), .val (.int l1), .val (.int l2), .val (.int f2), .val (.int g3), .val (.int g4), .val (.int y0), .val (.int y1), .val (.int y2), .val (.ref x8_), .val (.ref x9_), .val (.ref b11), .unset, .unset, .unset, .unset, .unset, .unset]) (st := [(.ref x9_), (.ref b18), (.ref b18)]) (by rw [hml]; rfl) pd_9 rfl rfl (Nat.le_of_eq rfl) (hb hby at_164) ?_
          intro v23 T23 L23 X23 hS23 hZ hown hQ23
          obtain ⟨rfl, Nq23, Kq23, F23a⟩ := hQ23
          have N23 := Fr.app N14 Nq23
          have gc24 := gc19.keep Kq23 (fun q => ne_x8__b18 (List.mem_singleton.mp q)) (fun q => ne_t8__b18 (List.mem_singleton.mp q))
          have gc25 := gc20.keep Kq23 (fun q => ne_x9__b18 (List.mem_singleton.mp q)) (fun q => ne_t9__b18 (List.mem_singleton.mp q))
          have ec26 := ec21.keep Kq23
          have fc27 := fc22.keep Kq23 (fun q => ne_b11_b18 (List.mem_singleton.mp q))
          have ec28 := A18.keep Kq23
          have O23 := O18.keep Kq23 (allS Gb18 all0)
          have hk23 := Nat.le_trans hk18 Kq23.1
          show Gl p e below _ (T23.setTop (mkF m 167 #[.val (.int p1), .val (.int p2), .val (.int p3), .val (.int p4), .val (.int p5), .val (.int p6), .val (.int l1), .val (.int l2), .val (.int f2), .val (.int g3), .val (.int g4), .val (.int y0), .val (.int y1), .val (.int y2), .val (.ref x8_), .val (.ref x9_), .val (.ref b11), .unset, .unset, .unset, .unset, .unset, .unset] [(.ref b18)]))
          refine Gl.of (fun _ kq_ => XS.astore X23.here hx rfl (hb hby at_167) rfl rfl (l' := #[.val (.int p1), .val (.int p2), .val (.int p3), .val (.int p4), .val (.int p5), .val (.int p6), .val (.int l1), .val (.int l2), .val (.int f2), .val (.int g3), .val (.int g4), .val (.int y0), .val (.int y1), .val (.int y2), .val (.ref x8_), .val (.ref x9_), .val (.ref b11), .val (.ref b18), .unset, .unset, .unset, .unset, .unset]) rfl kq_) ?_
          have J216 : ∀ z : Int32, own_rel z (own_sp l1 f2 g3 g4) (own_sp l2 y0 y1 y2) → Gl p e below (GdW s (fun v h L => v = some (.int 1) ∧ Fr n0 L) 32 1152) (T23.setTop (mkF m 216 #[.val (.int p1), .val (.int p2), .val (.int p3), .val (.int p4), .val (.int p5), .val (.int p6), .val (.int l1), .val (.int l2), .val (.int f2), .val (.int g3), .val (.int g4), .val (.int y0), .val (.int y1), .val (.int y2), .val (.ref x8_), .val (.ref x9_), .val (.ref b11), .val (.ref b18), .val (.int z), .unset, .unset, .unset, .unset] [])) := by
            intro z hz
            rcases hz with ⟨rfl, hsm⟩ | ⟨rfl, hsm⟩
            · show Gl p e below _ (T23.setTop (mkF m 216 #[.val (.int p1), .val (.int p2), .val (.int p3), .val (.int p4), .val (.int p5), .val (.int p6), .val (.int l1), .val (.int l2), .val (.int f2), .val (.int g3), .val (.int g4), .val (.int y0), .val (.int y1), .val (.int y2), .val (.ref x8_), .val (.ref x9_), .val (.ref b11), .val (.ref b18), .val (.int (1 : Int32)), .unset, .unset, .unset, .unset] []))
              refine Gl.of (fun _ kq_ => XS.iload X23.here hx rfl (hb hby at_216) rfl kq_) ?_
              show Gl p e below _ (T23.setTop (mkF m 218 #[.val (.int p1), .val (.int p2), .val (.int p3), .val (.int p4), .val (.int p5), .val (.int p6), .val (.int l1), .val (.int l2), .val (.int f2), .val (.int g3), .val (.int g4), .val (.int y0), .val (.int y1), .val (.int y2), .val (.ref x8_), .val (.ref x9_), .val (.ref b11), .val (.ref b18), .val (.int (1 : Int32)), .unset, .unset, .unset, .unset] [(.int p6)]))
              refine Gl.of (fun _ kq_ => XS.bipush X23.here hx rfl (hb hby at_218) kq_) ?_
              show Gl p e below _ (T23.setTop (mkF m 220 #[.val (.int p1), .val (.int p2), .val (.int p3), .val (.int p4), .val (.int p5), .val (.int p6), .val (.int l1), .val (.int l2), .val (.int f2), .val (.int g3), .val (.int g4), .val (.int y0), .val (.int y1), .val (.int y2), .val (.ref x8_), .val (.ref x9_), .val (.ref b11), .val (.ref b18), .val (.int (1 : Int32)), .unset, .unset, .unset, .unset] [(.int (10 : Int32)), (.int p6)]))
              refine Gl.of (fun _ kq_ => XS.iushr X23.here hx rfl (hb hby at_220) rfl kq_) ?_
              show Gl p e below _ (T23.setTop (mkF m 221 #[.val (.int p1), .val (.int p2), .val (.int p3), .val (.int p4), .val (.int p5), .val (.int p6), .val (.int l1), .val (.int l2), .val (.int f2), .val (.int g3), .val (.int g4), .val (.int y0), .val (.int y1), .val (.int y2), .val (.ref x8_), .val (.ref x9_), .val (.ref b11), .val (.ref b18), .val (.int (1 : Int32)), .unset, .unset, .unset, .unset] [(.int ((p6.toUInt32 >>> ((10 : Int32) &&& 31).toUInt32).toInt32))]))
              refine Gl.of (fun _ kq_ => XS.iconst X23.here hx rfl (hb hby at_221) kq_) ?_
              show Gl p e below _ (T23.setTop (mkF m 222 #[.val (.int p1), .val (.int p2), .val (.int p3), .val (.int p4), .val (.int p5), .val (.int p6), .val (.int l1), .val (.int l2), .val (.int f2), .val (.int g3), .val (.int g4), .val (.int y0), .val (.int y1), .val (.int y2), .val (.ref x8_), .val (.ref x9_), .val (.ref b11), .val (.ref b18), .val (.int (1 : Int32)), .unset, .unset, .unset, .unset] [(.int (3 : Int32)), (.int ((p6.toUInt32 >>> ((10 : Int32) &&& 31).toUInt32).toInt32))]))
              refine Gl.of (fun _ kq_ => XS.iand X23.here hx rfl (hb hby at_222) rfl kq_) ?_
              show Gl p e below _ (T23.setTop (mkF m 223 #[.val (.int p1), .val (.int p2), .val (.int p3), .val (.int p4), .val (.int p5), .val (.int p6), .val (.int l1), .val (.int l2), .val (.int f2), .val (.int g3), .val (.int g4), .val (.int y0), .val (.int y1), .val (.int y2), .val (.ref x8_), .val (.ref x9_), .val (.ref b11), .val (.ref b18), .val (.int (1 : Int32)), .unset, .unset, .unset, .unset] [(.int (((p6.toUInt32 >>> ((10 : Int32) &&& 31).toUInt32).toInt32) &&& (3 : Int32)))]))
              refine Gl.of (fun _ kq_ => XS.istore X23.here hx rfl (hb hby at_223) rfl (l' := #[.val (.int p1), .val (.int p2), .val (.int p3), .val (.int p4), .val (.int p5), .val (.int p6), .val (.int l1), .val (.int l2), .val (.int f2), .val (.int g3), .val (.int g4), .val (.int y0), .val (.int y1), .val (.int y2), .val (.ref x8_), .val (.ref x9_), .val (.ref b11), .val (.ref b18), .val (.int (1 : Int32)), .val (.int (((p6.toUInt32 >>> ((10 : Int32) &&& 31).toUInt32).toInt32) &&& (3 : Int32))), .unset, .unset, .unset]) rfl kq_) ?_
              show Gl p e below _ (T23.setTop (mkF m 225 #[.val (.int p1), .val (.int p2), .val (.int p3), .val (.int p4), .val (.int p5), .val (.int p6), .val (.int l1), .val (.int l2), .val (.int f2), .val (.int g3), .val (.int g4), .val (.int y0), .val (.int y1), .val (.int y2), .val (.ref x8_), .val (.ref x9_), .val (.ref b11), .val (.ref b18), .val (.int (1 : Int32)), .val (.int (((p6.toUInt32 >>> ((10 : Int32) &&& 31).toUInt32).toInt32) &&& (3 : Int32))), .unset, .unset, .unset] []))
              refine Gl.of (fun _ kq_ => XS.iload X23.here hx rfl (hb hby at_225) rfl kq_) ?_
              show Gl p e below _ (T23.setTop (mkF m 227 #[.val (.int p1), .val (.int p2), .val (.int p3), .val (.int p4), .val (.int p5), .val (.int p6), .val (.int l1), .val (.int l2), .val (.int f2), .val (.int g3), .val (.int g4), .val (.int y0), .val (.int y1), .val (.int y2), .val (.ref x8_), .val (.ref x9_), .val (.ref b11), .val (.ref b18), .val (.int (1 : Int32)), .val (.int (((p6.toUInt32 >>> ((10 : Int32) &&& 31).toUInt32).toInt32) &&& (3 : Int32))), .unset, .unset, .unset] [(.int (((p6.toUInt32 >>> ((10 : Int32) &&& 31).toUInt32).toInt32) &&& (3 : Int32)))]))
              refine Gl.of (fun _ kq_ => XS.iconst X23.here hx rfl (hb hby at_227) kq_) ?_
              show Gl p e below _ (T23.setTop (mkF m 228 #[.val (.int p1), .val (.int p2), .val (.int p3), .val (.int p4), .val (.int p5), .val (.int p6), .val (.int l1), .val (.int l2), .val (.int f2), .val (.int g3), .val (.int g4), .val (.int y0), .val (.int y1), .val (.int y2), .val (.ref x8_), .val (.ref x9_), .val (.ref b11), .val (.ref b18), .val (.int (1 : Int32)), .val (.int (((p6.toUInt32 >>> ((10 : Int32) &&& 31).toUInt32).toInt32) &&& (3 : Int32))), .unset, .unset, .unset] [(.int (2 : Int32)), (.int (((p6.toUInt32 >>> ((10 : Int32) &&& 31).toUInt32).toInt32) &&& (3 : Int32)))]))
              by_cases hc228_29 : (((p6.toUInt32 >>> ((10 : Int32) &&& 31).toUInt32).toInt32) &&& (3 : Int32)) = (2 : Int32)
              · refine Gl.of (fun _ kq_ => XS.icmpNo X23.here hx rfl (hb hby at_228) rfl (teq hc228_29).2 kq_) ?_
                show Gl p e below _ (T23.setTop (mkF m 231 #[.val (.int p1), .val (.int p2), .val (.int p3), .val (.int p4), .val (.int p5), .val (.int p6), .val (.int l1), .val (.int l2), .val (.int f2), .val (.int g3), .val (.int g4), .val (.int y0), .val (.int y1), .val (.int y2), .val (.ref x8_), .val (.ref x9_), .val (.ref b11), .val (.ref b18), .val (.int (1 : Int32)), .val (.int (((p6.toUInt32 >>> ((10 : Int32) &&& 31).toUInt32).toInt32) &&& (3 : Int32))), .unset, .unset, .unset] []))
                refine Gl.of (fun _ kq_ => XS.aconstNull X23.here hx rfl (hb hby at_231) kq_) ?_
                show Gl p e below _ (T23.setTop (mkF m 232 #[.val (.int p1), .val (.int p2), .val (.int p3), .val (.int p4), .val (.int p5), .val (.int p6), .val (.int l1), .val (.int l2), .val (.int f2), .val (.int g3), .val (.int g4), .val (.int y0), .val (.int y1), .val (.int y2), .val (.ref x8_), .val (.ref x9_), .val (.ref b11), .val (.ref b18), .val (.int (1 : Int32)), .val (.int (((p6.toUInt32 >>> ((10 : Int32) &&& 31).toUInt32).toInt32) &&& (3 : Int32))), .unset, .unset, .unset] [.null]))
                refine Gl.of (fun _ kq_ => XS.astore X23.here hx rfl (hb hby at_232) rfl rfl (l' := #[.val (.int p1), .val (.int p2), .val (.int p3), .val (.int p4), .val (.int p5), .val (.int p6), .val (.int l1), .val (.int l2), .val (.int f2), .val (.int g3), .val (.int g4), .val (.int y0), .val (.int y1), .val (.int y2), .val (.ref x8_), .val (.ref x9_), .val (.ref b11), .val (.ref b18), .val (.int (1 : Int32)), .val (.int (((p6.toUInt32 >>> ((10 : Int32) &&& 31).toUInt32).toInt32) &&& (3 : Int32))), .val .null, .unset, .unset]) rfl kq_) ?_
                show Gl p e below _ (T23.setTop (mkF m 234 #[.val (.int p1), .val (.int p2), .val (.int p3), .val (.int p4), .val (.int p5), .val (.int p6), .val (.int l1), .val (.int l2), .val (.int f2), .val (.int g3), .val (.int g4), .val (.int y0), .val (.int y1), .val (.int y2), .val (.ref x8_), .val (.ref x9_), .val (.ref b11), .val (.ref b18), .val (.int (1 : Int32)), .val (.int (((p6.toUInt32 >>> ((10 : Int32) &&& 31).toUInt32).toInt32) &&& (3 : Int32))), .val .null, .unset, .unset] []))
                refine Gl.of (fun _ kq_ => XS.goto X23.here hx rfl (pc0 := 234) (pc' := 254) rfl (hb hby at_234) (by decide) (by decide) kq_) ?_
                show Gl p e below _ (T23.setTop (mkF m 254 #[.val (.int p1), .val (.int p2), .val (.int p3), .val (.int p4), .val (.int p5), .val (.int p6), .val (.int l1), .val (.int l2), .val (.int f2), .val (.int g3), .val (.int g4), .val (.int y0), .val (.int y1), .val (.int y2), .val (.ref x8_), .val (.ref x9_), .val (.ref b11), .val (.ref b18), .val (.int (1 : Int32)), .val (.int (((p6.toUInt32 >>> ((10 : Int32) &&& 31).toUInt32).toInt32) &&& (3 : Int32))), .val .null, .unset, .unset] []))
                refine Gl.of (fun _ kq_ => XS.iload X23.here hx rfl (hb hby at_254) rfl kq_) ?_
                show Gl p e below _ (T23.setTop (mkF m 256 #[.val (.int p1), .val (.int p2), .val (.int p3), .val (.int p4), .val (.int p5), .val (.int p6), .val (.int l1), .val (.int l2), .val (.int f2), .val (.int g3), .val (.int g4), .val (.int y0), .val (.int y1), .val (.int y2), .val (.ref x8_), .val (.ref x9_), .val (.ref b11), .val (.ref b18), .val (.int (1 : Int32)), .val (.int (((p6.toUInt32 >>> ((10 : Int32) &&& 31).toUInt32).toInt32) &&& (3 : Int32))), .val .null, .unset, .unset] [(.int (((p6.toUInt32 >>> ((10 : Int32) &&& 31).toUInt32).toInt32) &&& (3 : Int32)))]))
                refine Gl.of (fun _ kq_ => XS.iconst X23.here hx rfl (hb hby at_256) kq_) ?_
                show Gl p e below _ (T23.setTop (mkF m 257 #[.val (.int p1), .val (.int p2), .val (.int p3), .val (.int p4), .val (.int p5), .val (.int p6), .val (.int l1), .val (.int l2), .val (.int f2), .val (.int g3), .val (.int g4), .val (.int y0), .val (.int y1), .val (.int y2), .val (.ref x8_), .val (.ref x9_), .val (.ref b11), .val (.ref b18), .val (.int (1 : Int32)), .val (.int (((p6.toUInt32 >>> ((10 : Int32) &&& 31).toUInt32).toInt32) &&& (3 : Int32))), .val .null, .unset, .unset] [(.int (2 : Int32)), (.int (((p6.toUInt32 >>> ((10 : Int32) &&& 31).toUInt32).toInt32) &&& (3 : Int32)))]))
                refine Gl.of (fun _ kq_ => XS.icmpYes X23.here hx rfl (pc0 := 257) (pc' := 269) rfl (hb hby at_257) rfl (flt (by rw [hc228_29]; decide : ¬ ((((p6.toUInt32 >>> ((10 : Int32) &&& 31).toUInt32).toInt32) &&& (3 : Int32)) < (2 : Int32)))).2.1 (by decide) (by decide) kq_) ?_
                show Gl p e below _ (T23.setTop (mkF m 269 #[.val (.int p1), .val (.int p2), .val (.int p3), .val (.int p4), .val (.int p5), .val (.int p6), .val (.int l1), .val (.int l2), .val (.int f2), .val (.int g3), .val (.int g4), .val (.int y0), .val (.int y1), .val (.int y2), .val (.ref x8_), .val (.ref x9_), .val (.ref b11), .val (.ref b18), .val (.int (1 : Int32)), .val (.int (((p6.toUInt32 >>> ((10 : Int32) &&& 31).toUInt32).toInt32) &&& (3 : Int32))), .val .null, .unset, .unset] []))
                refine Gl.of (fun _ kq_ => XS.iconst X23.here hx rfl (hb hby at_269) kq_) ?_
                show Gl p e below _ (T23.setTop (mkF m 270 #[.val (.int p1), .val (.int p2), .val (.int p3), .val (.int p4), .val (.int p5), .val (.int p6), .val (.int l1), .val (.int l2), .val (.int f2), .val (.int g3), .val (.int g4), .val (.int y0), .val (.int y1), .val (.int y2), .val (.ref x8_), .val (.ref x9_), .val (.ref b11), .val (.ref b18), .val (.int (1 : Int32)), .val (.int (((p6.toUInt32 >>> ((10 : Int32) &&& 31).toUInt32).toInt32) &&& (3 : Int32))), .val .null, .unset, .unset] [(.int (0 : Int32))]))
                refine Gl.of (fun _ kq_ => XS.istore X23.here hx rfl (hb hby at_270) rfl (l' := #[.val (.int p1), .val (.int p2), .val (.int p3), .val (.int p4), .val (.int p5), .val (.int p6), .val (.int l1), .val (.int l2), .val (.int f2), .val (.int g3), .val (.int g4), .val (.int y0), .val (.int y1), .val (.int y2), .val (.ref x8_), .val (.ref x9_), .val (.ref b11), .val (.ref b18), .val (.int (1 : Int32)), .val (.int (((p6.toUInt32 >>> ((10 : Int32) &&& 31).toUInt32).toInt32) &&& (3 : Int32))), .val .null, .val (.int (0 : Int32)), .unset]) rfl kq_) ?_
                show Gl p e below _ (T23.setTop (mkF m 272 #[.val (.int p1), .val (.int p2), .val (.int p3), .val (.int p4), .val (.int p5), .val (.int p6), .val (.int l1), .val (.int l2), .val (.int f2), .val (.int g3), .val (.int g4), .val (.int y0), .val (.int y1), .val (.int y2), .val (.ref x8_), .val (.ref x9_), .val (.ref b11), .val (.ref b18), .val (.int (1 : Int32)), .val (.int (((p6.toUInt32 >>> ((10 : Int32) &&& 31).toUInt32).toInt32) &&& (3 : Int32))), .val .null, .val (.int (0 : Int32)), .unset] []))
                refine Gl.of (fun _ kq_ => XS.aload X23.here hx rfl (hb hby at_272) rfl rfl kq_) ?_
                show Gl p e below _ (T23.setTop (mkF m 274 #[.val (.int p1), .val (.int p2), .val (.int p3), .val (.int p4), .val (.int p5), .val (.int p6), .val (.int l1), .val (.int l2), .val (.int f2), .val (.int g3), .val (.int g4), .val (.int y0), .val (.int y1), .val (.int y2), .val (.ref x8_), .val (.ref x9_), .val (.ref b11), .val (.ref b18), .val (.int (1 : Int32)), .val (.int (((p6.toUInt32 >>> ((10 : Int32) &&& 31).toUInt32).toInt32) &&& (3 : Int32))), .val .null, .val (.int (0 : Int32)), .unset] [(.ref b11)]))
                refine Gl.of (fun _ kq_ => XS.aload X23.here hx rfl (hb hby at_274) rfl rfl kq_) ?_
                show Gl p e below _ (T23.setTop (mkF m 276 #[.val (.int p1), .val (.int p2), .val (.int p3), .val (.int p4), .val (.int p5), .val (.int p6), .val (.int l1), .val (.int l2), .val (.int f2), .val (.int g3), .val (.int g4), .val (.int y0), .val (.int y1), .val (.int y2), .val (.ref x8_), .val (.ref x9_), .val (.ref b11), .val (.ref b18), .val (.int (1 : Int32)), .val (.int (((p6.toUInt32 >>> ((10 : Int32) &&& 31).toUInt32).toInt32) &&& (3 : Int32))), .val .null, .val (.int (0 : Int32)), .unset] [.null, (.ref b11)]))
                refine Gl.callV0 X23 hx hZ (y := (⟨"com/example/schenley/schenley/Identifier", "equals", "(Ljava/lang/Object;)Z"⟩ : MethodName)) (z := (⟨"com/example/schenley/schenley/Identifier", "equals", "(Ljava/lang/Object;)Z"⟩ : MethodName)) hown (w105 hw) (w106 hw) (notFace_of_selects (args := #[]) (mvT hZ (w108 hw))) (w108 hw) (w107 hw) (w109 hw) (w43 hw) (desc_ne (by decide)) (b := b11) (argsL := [.null]) (rest := []) ec26 (rmQn l Z a0 hw _ b11) 0 (by decide) (by decide) rfl (pc := 276) (Ls := #[.val (.int p1), .val (.int p2), .val (.int p3), .val (.int p4), .val (.int p5), .val (.int p6), .val (.int l1), .val (.int l2), .val (.int f2), .val (.int g3), .val (.int g4), .val (.int y0), .val (.int y1), .val (.int y2), .val (.ref x8_), .val (.ref x9_), .val (.ref b11), .val (.ref b18), .val (.int (1 : Int32)), .val (.int (((p6.toUInt32 >>> ((10 : Int32) &&& 31).toUInt32).toInt32) &&& (3 : Int32))), .val .null, .val (.int (0 : Int32)), .unset]) (st := [.null, (.ref b11)]) (by rw [hml]; rfl) pd_7 rfl rfl (Nat.le_of_eq rfl) (hb hby at_276) (by decide) (by decide) ?_
                intro v30 T30 X30 e30 hv30
                subst hv30
                show Gl p e below _ (T30.setTop (mkF m 279 #[.val (.int p1), .val (.int p2), .val (.int p3), .val (.int p4), .val (.int p5), .val (.int p6), .val (.int l1), .val (.int l2), .val (.int f2), .val (.int g3), .val (.int g4), .val (.int y0), .val (.int y1), .val (.int y2), .val (.ref x8_), .val (.ref x9_), .val (.ref b11), .val (.ref b18), .val (.int (1 : Int32)), .val (.int (((p6.toUInt32 >>> ((10 : Int32) &&& 31).toUInt32).toInt32) &&& (3 : Int32))), .val .null, .val (.int (0 : Int32)), .unset] [(.int (0 : Int32))]))
                refine Gl.of (fun _ kq_ => XS.istore X30.here hx rfl (hb hby at_279) rfl (l' := #[.val (.int p1), .val (.int p2), .val (.int p3), .val (.int p4), .val (.int p5), .val (.int p6), .val (.int l1), .val (.int l2), .val (.int f2), .val (.int g3), .val (.int g4), .val (.int y0), .val (.int y1), .val (.int y2), .val (.ref x8_), .val (.ref x9_), .val (.ref b11), .val (.ref b18), .val (.int (1 : Int32)), .val (.int (((p6.toUInt32 >>> ((10 : Int32) &&& 31).toUInt32).toInt32) &&& (3 : Int32))), .val .null, .val (.int (0 : Int32)), .val (.int (0 : Int32))]) rfl kq_) ?_
                show Gl p e below _ (T30.setTop (mkF m 281 #[.val (.int p1), .val (.int p2), .val (.int p3), .val (.int p4), .val (.int p5), .val (.int p6), .val (.int l1), .val (.int l2), .val (.int f2), .val (.int g3), .val (.int g4), .val (.int y0), .val (.int y1), .val (.int y2), .val (.ref x8_), .val (.ref x9_), .val (.ref b11), .val (.ref b18), .val (.int (1 : Int32)), .val (.int (((p6.toUInt32 >>> ((10 : Int32) &&& 31).toUInt32).toInt32) &&& (3 : Int32))), .val .null, .val (.int (0 : Int32)), .val (.int (0 : Int32))] []))
                refine Gl.of (fun _ kq_ => XS.iload X30.here hx rfl (hb hby at_281) rfl kq_) ?_
                show Gl p e below _ (T30.setTop (mkF m 283 #[.val (.int p1), .val (.int p2), .val (.int p3), .val (.int p4), .val (.int p5), .val (.int p6), .val (.int l1), .val (.int l2), .val (.int f2), .val (.int g3), .val (.int g4), .val (.int y0), .val (.int y1), .val (.int y2), .val (.ref x8_), .val (.ref x9_), .val (.ref b11), .val (.ref b18), .val (.int (1 : Int32)), .val (.int (((p6.toUInt32 >>> ((10 : Int32) &&& 31).toUInt32).toInt32) &&& (3 : Int32))), .val .null, .val (.int (0 : Int32)), .val (.int (0 : Int32))] [(.int (0 : Int32))]))
                refine Gl.of (fun _ kq_ => XS.iload X30.here hx rfl (hb hby at_283) rfl kq_) ?_
                show Gl p e below _ (T30.setTop (mkF m 285 #[.val (.int p1), .val (.int p2), .val (.int p3), .val (.int p4), .val (.int p5), .val (.int p6), .val (.int l1), .val (.int l2), .val (.int f2), .val (.int g3), .val (.int g4), .val (.int y0), .val (.int y1), .val (.int y2), .val (.ref x8_), .val (.ref x9_), .val (.ref b11), .val (.ref b18), .val (.int (1 : Int32)), .val (.int (((p6.toUInt32 >>> ((10 : Int32) &&& 31).toUInt32).toInt32) &&& (3 : Int32))), .val .null, .val (.int (0 : Int32)), .val (.int (0 : Int32))] [(.int (0 : Int32)), (.int (0 : Int32))]))
                refine Gl.of (fun _ kq_ => XS.icmpYes X30.here hx rfl (pc0 := 285) (pc' := 290) rfl (hb hby at_285) rfl (teq (by decide : (0 : Int32) = (0 : Int32))).1 (by decide) (by decide) kq_) ?_
                show Gl p e below _ (T30.setTop (mkF m 290 #[.val (.int p1), .val (.int p2), .val (.int p3), .val (.int p4), .val (.int p5), .val (.int p6), .val (.int l1), .val (.int l2), .val (.int f2), .val (.int g3), .val (.int g4), .val (.int y0), .val (.int y1), .val (.int y2), .val (.ref x8_), .val (.ref x9_), .val (.ref b11), .val (.ref b18), .val (.int (1 : Int32)), .val (.int (((p6.toUInt32 >>> ((10 : Int32) &&& 31).toUInt32).toInt32) &&& (3 : Int32))), .val .null, .val (.int (0 : Int32)), .val (.int (0 : Int32))] []))
                refine Gl.of (fun _ kq_ => XS.iload X30.here hx rfl (hb hby at_290) rfl kq_) ?_
                show Gl p e below _ (T30.setTop (mkF m 292 #[.val (.int p1), .val (.int p2), .val (.int p3), .val (.int p4), .val (.int p5), .val (.int p6), .val (.int l1), .val (.int l2), .val (.int f2), .val (.int g3), .val (.int g4), .val (.int y0), .val (.int y1), .val (.int y2), .val (.ref x8_), .val (.ref x9_), .val (.ref b11), .val (.ref b18), .val (.int (1 : Int32)), .val (.int (((p6.toUInt32 >>> ((10 : Int32) &&& 31).toUInt32).toInt32) &&& (3 : Int32))), .val .null, .val (.int (0 : Int32)), .val (.int (0 : Int32))] [(.int (((p6.toUInt32 >>> ((10 : Int32) &&& 31).toUInt32).toInt32) &&& (3 : Int32)))]))
                refine Gl.of (fun _ kq_ => XS.iconst X30.here hx rfl (hb hby at_292) kq_) ?_
                show Gl p e below _ (T30.setTop (mkF m 293 #[.val (.int p1), .val (.int p2), .val (.int p3), .val (.int p4), .val (.int p5), .val (.int p6), .val (.int l1), .val (.int l2), .val (.int f2), .val (.int g3), .val (.int g4), .val (.int y0), .val (.int y1), .val (.int y2), .val (.ref x8_), .val (.ref x9_), .val (.ref b11), .val (.ref b18), .val (.int (1 : Int32)), .val (.int (((p6.toUInt32 >>> ((10 : Int32) &&& 31).toUInt32).toInt32) &&& (3 : Int32))), .val .null, .val (.int (0 : Int32)), .val (.int (0 : Int32))] [(.int (2 : Int32)), (.int (((p6.toUInt32 >>> ((10 : Int32) &&& 31).toUInt32).toInt32) &&& (3 : Int32)))]))
                refine Gl.of (fun _ kq_ => XS.icmpYes X30.here hx rfl (pc0 := 293) (pc' := 310) rfl (hb hby at_293) rfl (flt (by rw [hc228_29]; decide : ¬ ((((p6.toUInt32 >>> ((10 : Int32) &&& 31).toUInt32).toInt32) &&& (3 : Int32)) < (2 : Int32)))).2.1 (by decide) (by decide) kq_) ?_
                show Gl p e below _ (T30.setTop (mkF m 310 #[.val (.int p1), .val (.int p2), .val (.int p3), .val (.int p4), .val (.int p5), .val (.int p6), .val (.int l1), .val (.int l2), .val (.int f2), .val (.int g3), .val (.int g4), .val (.int y0), .val (.int y1), .val (.int y2), .val (.ref x8_), .val (.ref x9_), .val (.ref b11), .val (.ref b18), .val (.int (1 : Int32)), .val (.int (((p6.toUInt32 >>> ((10 : Int32) &&& 31).toUInt32).toInt32) &&& (3 : Int32))), .val .null, .val (.int (0 : Int32)), .val (.int (0 : Int32))] []))
                refine Gl.of (fun _ kq_ => XS.aload X30.here hx rfl (hb hby at_310) rfl rfl kq_) ?_
                show Gl p e below _ (T30.setTop (mkF m 312 #[.val (.int p1), .val (.int p2), .val (.int p3), .val (.int p4), .val (.int p5), .val (.int p6), .val (.int l1), .val (.int l2), .val (.int f2), .val (.int g3), .val (.int g4), .val (.int y0), .val (.int y1), .val (.int y2), .val (.ref x8_), .val (.ref x9_), .val (.ref b11), .val (.ref b18), .val (.int (1 : Int32)), .val (.int (((p6.toUInt32 >>> ((10 : Int32) &&& 31).toUInt32).toInt32) &&& (3 : Int32))), .val .null, .val (.int (0 : Int32)), .val (.int (0 : Int32))] [(.ref b11)]))
                refine Gl.of (fun _ kq_ => XS.aload X30.here hx rfl (hb hby at_312) rfl rfl kq_) ?_
                show Gl p e below _ (T30.setTop (mkF m 314 #[.val (.int p1), .val (.int p2), .val (.int p3), .val (.int p4), .val (.int p5), .val (.int p6), .val (.int l1), .val (.int l2), .val (.int f2), .val (.int g3), .val (.int g4), .val (.int y0), .val (.int y1), .val (.int y2), .val (.ref x8_), .val (.ref x9_), .val (.ref b11), .val (.ref b18), .val (.int (1 : Int32)), .val (.int (((p6.toUInt32 >>> ((10 : Int32) &&& 31).toUInt32).toInt32) &&& (3 : Int32))), .val .null, .val (.int (0 : Int32)), .val (.int (0 : Int32))] [(.ref b11), (.ref b11)]))
                refine Gl.callV0 X30 hx hZ (y := (⟨"com/example/schenley/schenley/Identifier", "equals", "(Ljava/lang/Object;)Z"⟩ : MethodName)) (z := (⟨"com/example/schenley/schenley/Identifier", "equals", "(Ljava/lang/Object;)Z"⟩ : MethodName)) hown (w105 hw) (w106 hw) (notFace_of_selects (args := #[]) (mvT hZ (w108 hw))) (w108 hw) (w107 hw) (w109 hw) (w43 hw) (desc_ne (by decide)) (b := b11) (argsL := [(.ref b11)]) (rest := []) ec26 (rmQ1 l Z a0 hw _ b11 b11 x8_ x8_ t8_ t8_ kb8 kb8 (own_sp l1 f2 g3 g4) (own_sp l1 f2 g3 g4) cz ec26 fc27 fc27 gc24 gc24 (SC.ext O23.2) hcz rfl) 0 (by decide) (by decide) e30 (pc := 314) (Ls := #[.val (.int p1), .val (.int p2), .val (.int p3), .val (.int p4), .val (.int p5), .val (.int p6), .val (.int l1), .val (.int l2), .val (.int f2), .val (.int g3), .val (.int g4), .val (.int y0), .val (.int y1), .val (.int y2), .val (.ref x8_), .val (.ref x9_), .val (.ref b11), .val (.ref b18), .val (.int (1 : Int32)), .val (.int (((p6.toUInt32 >>> ((10 : Int32) &&& 31).toUInt32).toInt32) &&& (3 : Int32))), .val .null, .val (.int (0 : Int32)), .val (.int (0 : Int32))]) (st := [(.ref b11), (.ref b11)]) (by rw [hml]; rfl) pd_7 rfl rfl (Nat.le_of_eq rfl) (hb hby at_314) (by decide) (by decide) ?_
                intro v31 T31 X31 e31 hv31
                subst hv31
                show Gl p e below _ (T31.setTop (mkF m 317 #[.val (.int p1), .val (.int p2), .val (.int p3), .val (.int p4), .val (.int p5), .val (.int p6), .val (.int l1), .val (.int l2), .val (.int f2), .val (.int g3), .val (.int g4), .val (.int y0), .val (.int y1), .val (.int y2), .val (.ref x8_), .val (.ref x9_), .val (.ref b11), .val (.ref b18), .val (.int (1 : Int32)), .val (.int (((p6.toUInt32 >>> ((10 : Int32) &&& 31).toUInt32).toInt32) &&& (3 : Int32))), .val .null, .val (.int (0 : Int32)), .val (.int (0 : Int32))] [(.int (1 : Int32))]))
                exact Gl.retNW X31 hx hlk hret (by simp) (hb hby at_317) e31 (⟨rfl, N23⟩) hS23 (Nat.le_refl _) (by decide) (by decide)
              · refine Gl.of (fun _ kq_ => XS.icmpYes X23.here hx rfl (pc0 := 228) (pc' := 237) rfl (hb hby at_228) rfl (feq hc228_29).2 (by decide) (by decide) kq_) ?_
                show Gl p e below _ (T23.setTop (mkF m 237 #[.val (.int p1), .val (.int p2), .val (.int p3), .val (.int p4), .val (.int p5), .val (.int p6), .val (.int l1), .val (.int l2), .val (.int f2), .val (.int g3), .val (.int g4), .val (.int y0), .val (.int y1), .val (.int y2), .val (.ref x8_), .val (.ref x9_), .val (.ref b11), .val (.ref b18), .val (.int (1 : Int32)), .val (.int (((p6.toUInt32 >>> ((10 : Int32) &&& 31).toUInt32).toInt32) &&& (3 : Int32))), .unset, .unset, .unset] []))
                refine Gl.of (fun _ kq_ => XS.iload X23.here hx rfl (hb hby at_237) rfl kq_) ?_
                show Gl p e below _ (T23.setTop (mkF m 239 #[.val (.int p1), .val (.int p2), .val (.int p3), .val (.int p4), .val (.int p5), .val (.int p6), .val (.int l1), .val (.int l2), .val (.int f2), .val (.int g3), .val (.int g4), .val (.int y0), .val (.int y1), .val (.int y2), .val (.ref x8_), .val (.ref x9_), .val (.ref b11), .val (.ref b18), .val (.int (1 : Int32)), .val (.int (((p6.toUInt32 >>> ((10 : Int32) &&& 31).toUInt32).toInt32) &&& (3 : Int32))), .unset, .unset, .unset] [(.int (((p6.toUInt32 >>> ((10 : Int32) &&& 31).toUInt32).toInt32) &&& (3 : Int32)))]))
                refine Gl.of (fun _ kq_ => XS.iconst X23.here hx rfl (hb hby at_239) kq_) ?_
                show Gl p e below _ (T23.setTop (mkF m 240 #[.val (.int p1), .val (.int p2), .val (.int p3), .val (.int p4), .val (.int p5), .val (.int p6), .val (.int l1), .val (.int l2), .val (.int f2), .val (.int g3), .val (.int g4), .val (.int y0), .val (.int y1), .val (.int y2), .val (.ref x8_), .val (.ref x9_), .val (.ref b11), .val (.ref b18), .val (.int (1 : Int32)), .val (.int (((p6.toUInt32 >>> ((10 : Int32) &&& 31).toUInt32).toInt32) &&& (3 : Int32))), .unset, .unset, .unset] [(.int (3 : Int32)), (.int (((p6.toUInt32 >>> ((10 : Int32) &&& 31).toUInt32).toInt32) &&& (3 : Int32)))]))
                by_cases hc240_32 : (((p6.toUInt32 >>> ((10 : Int32) &&& 31).toUInt32).toInt32) &&& (3 : Int32)) = (3 : Int32)
                · refine Gl.of (fun _ kq_ => XS.icmpNo X23.here hx rfl (hb hby at_240) rfl (teq hc240_32).2 kq_) ?_
                  show Gl p e below _ (T23.setTop (mkF m 243 #[.val (.int p1), .val (.int p2), .val (.int p3), .val (.int p4), .val (.int p5), .val (.int p6), .val (.int l1), .val (.int l2), .val (.int f2), .val (.int g3), .val (.int g4), .val (.int y0), .val (.int y1), .val (.int y2), .val (.ref x8_), .val (.ref x9_), .val (.ref b11), .val (.ref b18), .val (.int (1 : Int32)), .val (.int (((p6.toUInt32 >>> ((10 : Int32) &&& 31).toUInt32).toInt32) &&& (3 : Int32))), .unset, .unset, .unset] []))
                  refine Gl.of (fun _ kq_ => XS.aload X23.here hx rfl (hb hby at_243) rfl rfl kq_) ?_
                  show Gl p e below _ (T23.setTop (mkF m 245 #[.val (.int p1), .val (.int p2), .val (.int p3), .val (.int p4), .val (.int p5), .val (.int p6), .val (.int l1), .val (.int l2), .val (.int f2), .val (.int g3), .val (.int g4), .val (.int y0), .val (.int y1), .val (.int y2), .val (.ref x8_), .val (.ref x9_), .val (.ref b11), .val (.ref b18), .val (.int (1 : Int32)), .val (.int (((p6.toUInt32 >>> ((10 : Int32) &&& 31).toUInt32).toInt32) &&& (3 : Int32))), .unset, .unset, .unset] [(.ref x8_)]))
                  refine Gl.of (fun _ kq_ => XS.astore X23.here hx rfl (hb hby at_245) rfl rfl (l' := #[.val (.int p1), .val (.int p2), .val (.int p3), .val (.int p4), .val (.int p5), .val (.int p6), .val (.int l1), .val (.int l2), .val (.int f2), .val (.int g3), .val (.int g4), .val (.int y0), .val (.int y1), .val (.int y2), .val (.ref x8_), .val (.ref x9_), .val (.ref b11), .val (.ref b18), .val (.int (1 : Int32)), .val (.int (((p6.toUInt32 >>> ((10 : Int32) &&& 31).toUInt32).toInt32) &&& (3 : Int32))), .val (.ref x8_), .unset, .unset]) rfl kq_) ?_
                  show Gl p e below _ (T23.setTop (mkF m 247 #[.val (.int p1), .val (.int p2), .val (.int p3), .val (.int p4), .val (.int p5), .val (.int p6), .val (.int l1), .val (.int l2), .val (.int f2), .val (.int g3), .val (.int g4), .val (.int y0), .val (.int y1), .val (.int y2), .val (.ref x8_), .val (.ref x9_), .val (.ref b11), .val (.ref b18), .val (.int (1 : Int32)), .val (.int (((p6.toUInt32 >>> ((10 : Int32) &&& 31).toUInt32).toInt32) &&& (3 : Int32))), .val (.ref x8_), .unset, .unset] []))
                  refine Gl.of (fun _ kq_ => XS.goto X23.here hx rfl (pc0 := 247) (pc' := 254) rfl (hb hby at_247) (by decide) (by decide) kq_) ?_
                  show Gl p e below _ (T23.setTop (mkF m 254 #[.val (.int p1), .val (.int p2), .val (.int p3), .val (.int p4), .val (.int p5), .val (.int p6), .val (.int l1), .val (.int l2), .val (.int f2), .val (.int g3), .val (.int g4), .val (.int y0), .val (.int y1), .val (.int y2), .val (.ref x8_), .val (.ref x9_), .val (.ref b11), .val (.ref b18), .val (.int (1 : Int32)), .val (.int (((p6.toUInt32 >>> ((10 : Int32) &&& 31).toUInt32).toInt32) &&& (3 : Int32))), .val (.ref x8_), .unset, .unset] []))
                  refine Gl.of (fun _ kq_ => XS.iload X23.here hx rfl (hb hby at_254) rfl kq_) ?_
                  show Gl p e below _ (T23.setTop (mkF m 256 #[.val (.int p1), .val (.int p2), .val (.int p3), .val (.int p4), .val (.int p5), .val (.int p6), .val (.int l1), .val (.int l2), .val (.int f2), .val (.int g3), .val (.int g4), .val (.int y0), .val (.int y1), .val (.int y2), .val (.ref x8_), .val (.ref x9_), .val (.ref b11), .val (.ref b18), .val (.int (1 : Int32)), .val (.int (((p6.toUInt32 >>> ((10 : Int32) &&& 31).toUInt32).toInt32) &&& (3 : Int32))), .val (.ref x8_), .unset, .unset] [(.int (((p6.toUInt32 >>> ((10 : Int32) &&& 31).toUInt32).toInt32) &&& (3 : Int32)))]))
                  refine Gl.of (fun _ kq_ => XS.iconst X23.here hx rfl (hb hby at_256) kq_) ?_
                  show Gl p e below _ (T23.setTop (mkF m 257 #[.val (.int p1), .val (.int p2), .val (.int p3), .val (.int p4), .val (.int p5), .val (.int p6), .val (.int l1), .val (.int l2), .val (.int f2), .val (.int g3), .val (.int g4), .val (.int y0), .val (.int y1), .val (.int y2), .val (.ref x8_), .val (.ref x9_), .val (.ref b11), .val (.ref b18), .val (.int (1 : Int32)), .val (.int (((p6.toUInt32 >>> ((10 : Int32) &&& 31).toUInt32).toInt32) &&& (3 : Int32))), .val (.ref x8_), .unset, .unset] [(.int (2 : Int32)), (.int (((p6.toUInt32 >>> ((10 : Int32) &&& 31).toUInt32).toInt32) &&& (3 : Int32)))]))
                  refine Gl.of (fun _ kq_ => XS.icmpYes X23.here hx rfl (pc0 := 257) (pc' := 269) rfl (hb hby at_257) rfl (flt (by rw [hc240_32]; decide : ¬ ((((p6.toUInt32 >>> ((10 : Int32) &&& 31).toUInt32).toInt32) &&& (3 : Int32)) < (2 : Int32)))).2.1 (by decide) (by decide) kq_) ?_
                  show Gl p e below _ (T23.setTop (mkF m 269 #[.val (.int p1), .val (.int p2), .val (.int p3), .val (.int p4), .val (.int p5), .val (.int p6), .val (.int l1), .val (.int l2), .val (.int f2), .val (.int g3), .val (.int g4), .val (.int y0), .val (.int y1), .val (.int y2), .val (.ref x8_), .val (.ref x9_), .val (.ref b11), .val (.ref b18), .val (.int (1 : Int32)), .val (.int (((p6.toUInt32 >>> ((10 : Int32) &&& 31).toUInt32).toInt32) &&& (3 : Int32))), .val (.ref x8_), .unset, .unset] []))
                  refine Gl.of (fun _ kq_ => XS.iconst X23.here hx rfl (hb hby at_269) kq_) ?_
                  show Gl p e below _ (T23.setTop (mkF m 270 #[.val (.int p1), .val (.int p2), .val (.int p3), .val (.int p4), .val (.int p5), .val (.int p6), .val (.int l1), .val (.int l2), .val (.int f2), .val (.int g3), .val (.int g4), .val (.int y0), .val (.int y1), .val (.int y2), .val (.ref x8_), .val (.ref x9_), .val (.ref b11), .val (.ref b18), .val (.int (1 : Int32)), .val (.int (((p6.toUInt32 >>> ((10 : Int32) &&& 31).toUInt32).toInt32) &&& (3 : Int32))), .val (.ref x8_), .unset, .unset] [(.int (0 : Int32))]))
                  refine Gl.of (fun _ kq_ => XS.istore X23.here hx rfl (hb hby at_270) rfl (l' := #[.val (.int p1), .val (.int p2), .val (.int p3), .val (.int p4), .val (.int p5), .val (.int p6), .val (.int l1), .val (.int l2), .val (.int f2), .val (.int g3), .val (.int g4), .val (.int y0), .val (.int y1), .val (.int y2), .val (.ref x8_), .val (.ref x9_), .val (.ref b11), .val (.ref b18), .val (.int (1 : Int32)), .val (.int (((p6.toUInt32 >>> ((10 : Int32) &&& 31).toUInt32).toInt32) &&& (3 : Int32))), .val (.ref x8_), .val (.int (0 : Int32)), .unset]) rfl kq_) ?_
                  show Gl p e below _ (T23.setTop (mkF m 272 #[.val (.int p1), .val (.int p2), .val (.int p3), .val (.int p4), .val (.int p5), .val (.int p6), .val (.int l1), .val (.int l2), .val (.int f2), .val (.int g3), .val (.int g4), .val (.int y0), .val (.int y1), .val (.int y2), .val (.ref x8_), .val (.ref x9_), .val (.ref b11), .val (.ref b18), .val (.int (1 : Int32)), .val (.int (((p6.toUInt32 >>> ((10 : Int32) &&& 31).toUInt32).toInt32) &&& (3 : Int32))), .val (.ref x8_), .val (.int (0 : Int32)), .unset] []))
                  refine Gl.of (fun _ kq_ => XS.aload X23.here hx rfl (hb hby at_272) rfl rfl kq_) ?_
                  show Gl p e below _ (T23.setTop (mkF m 274 #[.val (.int p1), .val (.int p2), .val (.int p3), .val (.int p4), .val (.int p5), .val (.int p6), .val (.int l1), .val (.int l2), .val (.int f2), .val (.int g3), .val (.int g4), .val (.int y0), .val (.int y1), .val (.int y2), .val (.ref x8_), .val (.ref x9_), .val (.ref b11), .val (.ref b18), .val (.int (1 : Int32)), .val (.int (((p6.toUInt32 >>> ((10 : Int32) &&& 31).toUInt32).toInt32) &&& (3 : Int32))), .val (.ref x8_), .val (.int (0 : Int32)), .unset] [(.ref b11)]))
                  refine Gl.of (fun _ kq_ => XS.aload X23.here hx rfl (hb hby at_274) rfl rfl kq_) ?_
                  show Gl p e below _ (T23.setTop (mkF m 276 #[.val (.int p1), .val (.int p2), .val (.int p3), .val (.int p4), .val (.int p5), .val (.int p6), .val (.int l1), .val (.int l2), .val (.int f2), .val (.int g3), .val (.int g4), .val (.int y0), .val (.int y1), .val (.int y2), .val (.ref x8_), .val (.ref x9_), .val (.ref b11), .val (.ref b18), .val (.int (1 : Int32)), .val (.int (((p6.toUInt32 >>> ((10 : Int32) &&& 31).toUInt32).toInt32) &&& (3 : Int32))), .val (.ref x8_), .val (.int (0 : Int32)), .unset] [(.ref x8_), (.ref b11)]))
                  refine Gl.callV0 X23 hx hZ (y := (⟨"com/example/schenley/schenley/Identifier", "equals", "(Ljava/lang/Object;)Z"⟩ : MethodName)) (z := (⟨"com/example/schenley/schenley/Identifier", "equals", "(Ljava/lang/Object;)Z"⟩ : MethodName)) hown (w105 hw) (w106 hw) (notFace_of_selects (args := #[]) (mvT hZ (w108 hw))) (w108 hw) (w107 hw) (w109 hw) (w43 hw) (desc_ne (by decide)) (b := b11) (argsL := [(.ref x8_)]) (rest := []) ec26 (rmQs l Z a0 hw _ b11 x8_ gc24.1) 0 (by decide) (by decide) rfl (pc := 276) (Ls := #[.val (.int p1), .val (.int p2), .val (.int p3), .val (.int p4), .val (.int p5), .val (.int p6), .val (.int l1), .val (.int l2), .val (.int f2), .val (.int g3), .val (.int g4), .val (.int y0), .val (.int y1), .val (.int y2), .val (.ref x8_), .val (.ref x9_), .val (.ref b11), .val (.ref b18), .val (.int (1 : Int32)), .val (.int (((p6.toUInt32 >>> ((10 : Int32) &&& 31).toUInt32).toInt32) &&& (3 : Int32))), .val (.ref x8_), .val (.int (0 : Int32)), .unset]) (st := [(.ref x8_), (.ref b11)]) (by rw [hml]; rfl) pd_7 rfl rfl (Nat.le_of_eq rfl) (hb hby at_276) (by decide) (by decide) ?_
                  intro v33 T33 X33 e33 hv33
                  subst hv33
                  show Gl p e below _ (T33.setTop (mkF m 279 #[.val (.int p1), .val (.int p2), .val (.int p3), .val (.int p4), .val (.int p5), .val (.int p6), .val (.int l1), .val (.int l2), .val (.int f2), .val (.int g3), .val (.int g4), .val (.int y0), .val (.int y1), .val (.int y2), .val (.ref x8_), .val (.ref x9_), .val (.ref b11), .val (.ref b18), .val (.int (1 : Int32)), .val (.int (((p6.toUInt32 >>> ((10 : Int32) &&& 31).toUInt32).toInt32) &&& (3 : Int32))), .val (.ref x8_), .val (.int (0 : Int32)), .unset] [(.int (0 : Int32))]))
                  refine Gl.of (fun _ kq_ => XS.istore X33.here hx rfl (hb hby at_279) rfl (l' := #[.val (.int p1), .val (.int p2), .val (.int p3), .val (.int p4), .val (.int p5), .val (.int p6), .val (.int l1), .val (.int l2), .val (.int f2), .val (.int g3), .val (.int g4), .val (.int y0), .val (.int y1), .val (.int y2), .val (.ref x8_), .val (.ref x9_), .val (.ref b11), .val (.ref b18), .val (.int (1 : Int32)), .val (.int (((p6.toUInt32 >>> ((10 : Int32) &&& 31).toUInt32).toInt32) &&& (3 : Int32))), .val (.ref x8_), .val (.int (0 : Int32)), .val (.int (0 : Int32))]) rfl kq_) ?_
                  show Gl p e below _ (T33.setTop (mkF m 281 #[.val (.int p1), .val (.int p2), .val (.int p3), .val (.int p4), .val (.int p5), .val (.int p6), .val (.int l1), .val (.int l2), .val (.int f2), .val (.int g3), .val (.int g4), .val (.int y0), .val (.int y1), .val (.int y2), .val (.ref x8_), .val (.ref x9_), .val (.ref b11), .val (.ref b18), .val (.int (1 : Int32)), .val (.int (((p6.toUInt32 >>> ((10 : Int32) &&& 31).toUInt32).toInt32) &&& (3 : Int32))), .val (.ref x8_), .val (.int (0 : Int32)), .val (.int (0 : Int32))] []))
                  refine Gl.of (fun _ kq_ => XS.iload X33.here hx rfl (hb hby at_281) rfl kq_) ?_
                  show Gl p e below _ (T33.setTop (mkF m 283 #[.val (.int p1), .val (.int p2), .val (.int p3), .val (.int p4), .val (.int p5), .val (.int p6), .val (.int l1), .val (.int l2), .val (.int f2), .val (.int g3), .val (.int g4), .val (.int y0), .val (.int y1), .val (.int y2), .val (.ref x8_), .val (.ref x9_), .val (.ref b11), .val (.ref b18), .val (.int (1 : Int32)), .val (.int (((p6.toUInt32 >>> ((10 : Int32) &&& 31).toUInt32).toInt32) &&& (3 : Int32))), .val (.ref x8_), .val (.int (0 : Int32)), .val (.int (0 : Int32))] [(.int (0 : Int32))]))
                  refine Gl.of (fun _ kq_ => XS.iload X33.here hx rfl (hb hby at_283) rfl kq_) ?_
                  show Gl p e below _ (T33.setTop (mkF m 285 #[.val (.int p1), .val (.int p2), .val (.int p3), .val (.int p4), .val (.int p5), .val (.int p6), .val (.int l1), .val (.int l2), .val (.int f2), .val (.int g3), .val (.int g4), .val (.int y0), .val (.int y1), .val (.int y2), .val (.ref x8_), .val (.ref x9_), .val (.ref b11), .val (.ref b18), .val (.int (1 : Int32)), .val (.int (((p6.toUInt32 >>> ((10 : Int32) &&& 31).toUInt32).toInt32) &&& (3 : Int32))), .val (.ref x8_), .val (.int (0 : Int32)), .val (.int (0 : Int32))] [(.int (0 : Int32)), (.int (0 : Int32))]))
                  refine Gl.of (fun _ kq_ => XS.icmpYes X33.here hx rfl (pc0 := 285) (pc' := 290) rfl (hb hby at_285) rfl (teq (by decide : (0 : Int32) = (0 : Int32))).1 (by decide) (by decide) kq_) ?_
                  show Gl p e below _ (T33.setTop (mkF m 290 #[.val (.int p1), .val (.int p2), .val (.int p3), .val (.int p4), .val (.int p5), .val (.int p6), .val (.int l1), .val (.int l2), .val (.int f2), .val (.int g3), .val (.int g4), .val (.int y0), .val (.int y1), .val (.int y2), .val (.ref x8_), .val (.ref x9_), .val (.ref b11), .val (.ref b18), .val (.int (1 : Int32)), .val (.int (((p6.toUInt32 >>> ((10 : Int32) &&& 31).toUInt32).toInt32) &&& (3 : Int32))), .val (.ref x8_), .val (.int (0 : Int32)), .val (.int (0 : Int32))] []))
                  refine Gl.of (fun _ kq_ => XS.iload X33.here hx rfl (hb hby at_290) rfl kq_) ?_
                  show Gl p e below _ (T33.setTop (mkF m 292 #[.val (.int p1), .val (.int p2), .val (.int p3), .val (.int p4), .val (.int p5), .val (.int p6), .val (.int l1), .val (.int l2), .val (.int f2), .val (.int g3), .val (.int g4), .val (.int y0), .val (.int y1), .val (.int y2), .val (.ref x8_), .val (.ref x9_), .val (.ref b11), .val (.ref b18), .val (.int (1 : Int32)), .val (.int (((p6.toUInt32 >>> ((10 : Int32) &&& 31).toUInt32).toInt32) &&& (3 : Int32))), .val (.ref x8_), .val (.int (0 : Int32)), .val (.int (0 : Int32))] [(.int (((p6.toUInt32 >>> ((10 : Int32) &&& 31).toUInt32).toInt32) &&& (3 : Int32)))]))
                  refine Gl.of (fun _ kq_ => XS.iconst X33.here hx rfl (hb hby at_292) kq_) ?_
                  show Gl p e below _ (T33.setTop (mkF m 293 #[.val (.int p1), .val (.int p2), .val (.int p3), .val (.int p4), .val (.int p5), .val (.int p6), .val (.int l1), .val (.int l2), .val (.int f2), .val (.int g3), .val (.int g4), .val (.int y0), .val (.int y1), .val (.int y2), .val (.ref x8_), .val (.ref x9_), .val (.ref b11), .val (.ref b18), .val (.int (1 : Int32)), .val (.int (((p6.toUInt32 >>> ((10 : Int32) &&& 31).toUInt32).toInt32) &&& (3 : Int32))), .val (.ref x8_), .val (.int (0 : Int32)), .val (.int (0 : Int32))] [(.int (2 : Int32)), (.int (((p6.toUInt32 >>> ((10 : Int32) &&& 31).toUInt32).toInt32) &&& (3 : Int32)))]))
                  refine Gl.of (fun _ kq_ => XS.icmpYes X33.here hx rfl (pc0 := 293) (pc' := 310) rfl (hb hby at_293) rfl (flt (by rw [hc240_32]; decide : ¬ ((((p6.toUInt32 >>> ((10 : Int32) &&& 31).toUInt32).toInt32) &&& (3 : Int32)) < (2 : Int32)))).2.1 (by decide) (by decide) kq_) ?_
                  show Gl p e below _ (T33.setTop (mkF m 310 #[.val (.int p1), .val (.int p2), .val (.int p3), .val (.int p4), .val (.int p5), .val (.int p6), .val (.int l1), .val (.int l2), .val (.int f2), .val (.int g3), .val (.int g4), .val (.int y0), .val (.int y1), .val (.int y2), .val (.ref x8_), .val (.ref x9_), .val (.ref b11), .val (.ref b18), .val (.int (1 : Int32)), .val (.int (((p6.toUInt32 >>> ((10 : Int32) &&& 31).toUInt32).toInt32) &&& (3 : Int32))), .val (.ref x8_), .val (.int (0 : Int32)), .val (.int (0 : Int32))] []))
                  refine Gl.of (fun _ kq_ => XS.aload X33.here hx rfl (hb hby at_310) rfl rfl kq_) ?_
                  show Gl p e below _ (T33.setTop (mkF m 312 #[.val (.int p1), .val (.int p2), .val (.int p3), .val (.int p4), .val (.int p5), .val (.int p6), .val (.int l1), .val (.int l2), .val (.int f2), .val (.int g3), .val (.int g4), .val (.int y0), .val (.int y1), .val (.int y2), .val (.ref x8_), .val (.ref x9_), .val (.ref b11), .val (.ref b18), .val (.int (1 : Int32)), .val (.int (((p6.toUInt32 >>> ((10 : Int32) &&& 31).toUInt32).toInt32) &&& (3 : Int32))), .val (.ref x8_), .val (.int (0 : Int32)), .val (.int (0 : Int32))] [(.ref b11)]))
                  refine Gl.of (fun _ kq_ => XS.aload X33.here hx rfl (hb hby at_312) rfl rfl kq_) ?_
                  show Gl p e below _ (T33.setTop (mkF m 314 #[.val (.int p1), .val (.int p2), .val (.int p3), .val (.int p4), .val (.int p5), .val (.int p6), .val (.int l1), .val (.int l2), .val (.int f2), .val (.int g3), .val (.int g4), .val (.int y0), .val (.int y1), .val (.int y2), .val (.ref x8_), .val (.ref x9_), .val (.ref b11), .val (.ref b18), .val (.int (1 : Int32)), .val (.int (((p6.toUInt32 >>> ((10 : Int32) &&& 31).toUInt32).toInt32) &&& (3 : Int32))), .val (.ref x8_), .val (.int (0 : Int32)), .val (.int (0 : Int32))] [(.ref b11), (.ref b11)]))
                  refine Gl.callV0 X33 hx hZ (y := (⟨"com/example/schenley/schenley/Identifier", "equals", "(Ljava/lang/Object;)Z"⟩ : MethodName)) (z := (⟨"com/example/schenley/schenley/Identifier", "equals", "(Ljava/lang/Object;)Z"⟩ : MethodName)) hown (w105 hw) (w106 hw) (notFace_of_selects (args := #[]) (mvT hZ (w108 hw))) (w108 hw) (w107 hw) (w109 hw) (w43 hw) (desc_ne (by decide)) (b := b11) (argsL := [(.ref b11)]) (rest := []) ec26 (rmQ1 l Z a0 hw _ b11 b11 x8_ x8_ t8_ t8_ kb8 kb8 (own_sp l1 f2 g3 g4) (own_sp l1 f2 g3 g4) cz ec26 fc27 fc27 gc24 gc24 (SC.ext O23.2) hcz rfl) 0 (by decide) (by decide) e33 (pc := 314) (Ls := #[.val (.int p1), .val (.int p2), .val (.int p3), .val (.int p4), .val (.int p5), .val (.int p6), .val (.int l1), .val (.int l2), .val (.int f2), .val (.int g3), .val (.int g4), .val (.int y0), .val (.int y1), .val (.int y2), .val (.ref x8_), .val (.ref x9_), .val (.ref b11), .val (.ref b18), .val (.int (1 : Int32)), .val (.int (((p6.toUInt32 >>> ((10 : Int32) &&& 31).toUInt32).toInt32) &&& (3 : Int32))), .val (.ref x8_), .val (.int (0 : Int32)), .val (.int (0 : Int32))]) (st := [(.ref b11), (.ref b11)]) (by rw [hml]; rfl) pd_7 rfl rfl (Nat.le_of_eq rfl) (hb hby at_314) (by decide) (by decide) ?_
                  intro v34 T34 X34 e34 hv34
                  subst hv34
                  show Gl p e below _ (T34.setTop (mkF m 317 #[.val (.int p1), .val (.int p2), .val (.int p3), .val (.int p4), .val (.int p5), .val (.int p6), .val (.int l1), .val (.int l2), .val (.int f2), .val (.int g3), .val (.int g4), .val (.int y0), .val (.int y1), .val (.int y2), .val (.ref x8_), .val (.ref x9_), .val (.ref b11), .val (.ref b18), .val (.int (1 : Int32)), .val (.int (((p6.toUInt32 >>> ((10 : Int32) &&& 31).toUInt32).toInt32) &&& (3 : Int32))), .val (.ref x8_), .val (.int (0 : Int32)), .val (.int (0 : Int32))] [(.int (1 : Int32))]))
                  exact Gl.retNW X34 hx hlk hret (by simp) (hb hby at_317) e34 (⟨rfl, N23⟩) hS23 (Nat.le_refl _) (by decide) (by decide)
                · refine Gl.of (fun _ kq_ => XS.icmpYes X23.here hx rfl (pc0 := 240) (pc' := 250) rfl (hb hby at_240) rfl (feq hc240_32).2 (by decide) (by decide) kq_) ?_
                  show Gl p e below _ (T23.setTop (mkF m 250 #[.val (.int p1), .val (.int p2), .val (.int p3), .val (.int p4), .val (.int p5), .val (.int p6), .val (.int l1), .val (.int l2), .val (.int f2), .val (.int g3), .val (.int g4), .val (.int y0), .val (.int y1), .val (.int y2), .val (.ref x8_), .val (.ref x9_), .val (.ref b11), .val (.ref b18), .val (.int (1 : Int32)), .val (.int (((p6.toUInt32 >>> ((10 : Int32) &&& 31).toUInt32).toInt32) &&& (3 : Int32))), .unset, .unset, .unset] []))
                  refine Gl.of (fun _ kq_ => XS.aload X23.here hx rfl (hb hby at_250) rfl rfl kq_) ?_
                  show Gl p e below _ (T23.setTop (mkF m 252 #[.val (.int p1), .val (.int p2), .val (.int p3), .val (.int p4), .val (.int p5), .val (.int p6), .val (.int l1), .val (.int l2), .val (.int f2), .val (.int g3), .val (.int g4), .val (.int y0), .val (.int y1), .val (.int y2), .val (.ref x8_), .val (.ref x9_), .val (.ref b11), .val (.ref b18), .val (.int (1 : Int32)), .val (.int (((p6.toUInt32 >>> ((10 : Int32) &&& 31).toUInt32).toInt32) &&& (3 : Int32))), .unset, .unset, .unset] [(.ref b18)]))
                  refine Gl.of (fun _ kq_ => XS.astore X23.here hx rfl (hb hby at_252) rfl rfl (l' := #[.val (.int p1), .val (.int p2), .val (.int p3), .val (.int p4), .val (.int p5), .val (.int p6), .val (.int l1), .val (.int l2), .val (.int f2), .val (.int g3), .val (.int g4), .val (.int y0), .val (.int y1), .val (.int y2), .val (.ref x8_), .val (.ref x9_), .val (.ref b11), .val (.ref b18), .val (.int (1 : Int32)), .val (.int (((p6.toUInt32 >>> ((10 : Int32) &&& 31).toUInt32).toInt32) &&& (3 : Int32))), .val (.ref b18), .unset, .unset]) rfl kq_) ?_
                  show Gl p e below _ (T23.setTop (mkF m 254 #[.val (.int p1), .val (.int p2), .val (.int p3), .val (.int p4), .val (.int p5), .val (.int p6), .val (.int l1), .val (.int l2), .val (.int f2), .val (.int g3), .val (.int g4), .val (.int y0), .val (.int y1), .val (.int y2), .val (.ref x8_), .val (.ref x9_), .val (.ref b11), .val (.ref b18), .val (.int (1 : Int32)), .val (.int (((p6.toUInt32 >>> ((10 : Int32) &&& 31).toUInt32).toInt32) &&& (3 : Int32))), .val (.ref b18), .unset, .unset] []))
                  refine Gl.of (fun _ kq_ => XS.iload X23.here hx rfl (hb hby at_254) rfl kq_) ?_
                  show Gl p e below _ (T23.setTop (mkF m 256 #[.val (.int p1), .val (.int p2), .val (.int p3), .val (.int p4), .val (.int p5), .val (.int p6), .val (.int l1), .val (.int l2), .val (.int f2), .val (.int g3), .val (.int g4), .val (.int y0), .val (.int y1), .val (.int y2), .val (.ref x8_), .val (.ref x9_), .val (.ref b11), .val (.ref b18), .val (.int (1 : Int32)), .val (.int (((p6.toUInt32 >>> ((10 : Int32) &&& 31).toUInt32).toInt32) &&& (3 : Int32))), .val (.ref b18), .unset, .unset] [(.int (((p6.toUInt32 >>> ((10 : Int32) &&& 31).toUInt32).toInt32) &&& (3 : Int32)))]))
                  refine Gl.of (fun _ kq_ => XS.iconst X23.here hx rfl (hb hby at_256) kq_) ?_
                  show Gl p e below _ (T23.setTop (mkF m 257 #[.val (.int p1), .val (.int p2), .val (.int p3), .val (.int p4), .val (.int p5), .val (.int p6), .val (.int l1), .val (.int l2), .val (.int f2), .val (.int g3), .val (.int g4), .val (.int y0), .val (.int y1), .val (.int y2), .val (.ref x8_), .val (.ref x9_), .val (.ref b11), .val (.ref b18), .val (.int (1 : Int32)), .val (.int (((p6.toUInt32 >>> ((10 : Int32) &&& 31).toUInt32).toInt32) &&& (3 : Int32))), .val (.ref b18), .unset, .unset] [(.int (2 : Int32)), (.int (((p6.toUInt32 >>> ((10 : Int32) &&& 31).toUInt32).toInt32) &&& (3 : Int32)))]))
                  refine Gl.of (fun _ kq_ => XS.icmpNo X23.here hx rfl (hb hby at_257) rfl (tlt (own_k _ hc228_29 hc240_32 : (((p6.toUInt32 >>> ((10 : Int32) &&& 31).toUInt32).toInt32) &&& (3 : Int32)) < (2 : Int32))).2.1 kq_) ?_
                  show Gl p e below _ (T23.setTop (mkF m 260 #[.val (.int p1), .val (.int p2), .val (.int p3), .val (.int p4), .val (.int p5), .val (.int p6), .val (.int l1), .val (.int l2), .val (.int f2), .val (.int g3), .val (.int g4), .val (.int y0), .val (.int y1), .val (.int y2), .val (.ref x8_), .val (.ref x9_), .val (.ref b11), .val (.ref b18), .val (.int (1 : Int32)), .val (.int (((p6.toUInt32 >>> ((10 : Int32) &&& 31).toUInt32).toInt32) &&& (3 : Int32))), .val (.ref b18), .unset, .unset] []))
                  refine Gl.of (fun _ kq_ => XS.iload X23.here hx rfl (hb hby at_260) rfl kq_) ?_
                  show Gl p e below _ (T23.setTop (mkF m 262 #[.val (.int p1), .val (.int p2), .val (.int p3), .val (.int p4), .val (.int p5), .val (.int p6), .val (.int l1), .val (.int l2), .val (.int f2), .val (.int g3), .val (.int g4), .val (.int y0), .val (.int y1), .val (.int y2), .val (.ref x8_), .val (.ref x9_), .val (.ref b11), .val (.ref b18), .val (.int (1 : Int32)), .val (.int (((p6.toUInt32 >>> ((10 : Int32) &&& 31).toUInt32).toInt32) &&& (3 : Int32))), .val (.ref b18), .unset, .unset] [(.int (1 : Int32))]))
                  refine Gl.of (fun _ kq_ => XS.ifNo X23.here hx rfl (hb hby at_262) rfl ((if0 _ _).trans (feq (by decide : ¬ ((1 : Int32) = (0 : Int32)))).1) kq_) ?_
                  show Gl p e below _ (T23.setTop (mkF m 265 #[.val (.int p1), .val (.int p2), .val (.int p3), .val (.int p4), .val (.int p5), .val (.int p6), .val (.int l1), .val (.int l2), .val (.int f2), .val (.int g3), .val (.int g4), .val (.int y0), .val (.int y1), .val (.int y2), .val (.ref x8_), .val (.ref x9_), .val (.ref b11), .val (.ref b18), .val (.int (1 : Int32)), .val (.int (((p6.toUInt32 >>> ((10 : Int32) &&& 31).toUInt32).toInt32) &&& (3 : Int32))), .val (.ref b18), .unset, .unset] []))
                  refine Gl.of (fun _ kq_ => XS.iconst X23.here hx rfl (hb hby at_265) kq_) ?_
                  show Gl p e below _ (T23.setTop (mkF m 266 #[.val (.int p1), .val (.int p2), .val (.int p3), .val (.int p4), .val (.int p5), .val (.int p6), .val (.int l1), .val (.int l2), .val (.int f2), .val (.int g3), .val (.int g4), .val (.int y0), .val (.int y1), .val (.int y2), .val (.ref x8_), .val (.ref x9_), .val (.ref b11), .val (.ref b18), .val (.int (1 : Int32)), .val (.int (((p6.toUInt32 >>> ((10 : Int32) &&& 31).toUInt32).toInt32) &&& (3 : Int32))), .val (.ref b18), .unset, .unset] [(.int (1 : Int32))]))
                  refine Gl.of (fun _ kq_ => XS.goto X23.here hx rfl (pc0 := 266) (pc' := 270) rfl (hb hby at_266) (by decide) (by decide) kq_) ?_
                  show Gl p e below _ (T23.setTop (mkF m 270 #[.val (.int p1), .val (.int p2), .val (.int p3), .val (.int p4), .val (.int p5), .val (.int p6), .val (.int l1), .val (.int l2), .val (.int f2), .val (.int g3), .val (.int g4), .val (.int y0), .val (.int y1), .val (.int y2), .val (.ref x8_), .val (.ref x9_), .val (.ref b11), .val (.ref b18), .val (.int (1 : Int32)), .val (.int (((p6.toUInt32 >>> ((10 : Int32) &&& 31).toUInt32).toInt32) &&& (3 : Int32))), .val (.ref b18), .unset, .unset] [(.int (1 : Int32))]))
                  refine Gl.of (fun _ kq_ => XS.istore X23.here hx rfl (hb hby at_270) rfl (l' := #[.val (.int p1), .val (.int p2), .val (.int p3), .val (.int p4), .val (.int p5), .val (.int p6), .val (.int l1), .val (.int l2), .val (.int f2), .val (.int g3), .val (.int g4), .val (.int y0), .val (.int y1), .val (.int y2), .val (.ref x8_), .val (.ref x9_), .val (.ref b11), .val (.ref b18), .val (.int (1 : Int32)), .val (.int (((p6.toUInt32 >>> ((10 : Int32) &&& 31).toUInt32).toInt32) &&& (3 : Int32))), .val (.ref b18), .val (.int (1 : Int32)), .unset]) rfl kq_) ?_
                  show Gl p e below _ (T23.setTop (mkF m 272 #[.val (.int p1), .val (.int p2), .val (.int p3), .val (.int p4), .val (.int p5), .val (.int p6), .val (.int l1), .val (.int l2), .val (.int f2), .val (.int g3), .val (.int g4), .val (.int y0), .val (.int y1), .val (.int y2), .val (.ref x8_), .val (.ref x9_), .val (.ref b11), .val (.ref b18), .val (.int (1 : Int32)), .val (.int (((p6.toUInt32 >>> ((10 : Int32) &&& 31).toUInt32).toInt32) &&& (3 : Int32))), .val (.ref b18), .val (.int (1 : Int32)), .unset] []))
                  refine Gl.of (fun _ kq_ => XS.aload X23.here hx rfl (hb hby at_272) rfl rfl kq_) ?_
                  show Gl p e below _ (T23.setTop (mkF m 274 #[.val (.int p1), .val (.int p2), .val (.int p3), .val (.int p4), .val (.int p5), .val (.int p6), .val (.int l1), .val (.int l2), .val (.int f2), .val (.int g3), .val (.int g4), .val (.int y0), .val (.int y1), .val (.int y2), .val (.ref x8_), .val (.ref x9_), .val (.ref b11), .val (.ref b18), .val (.int (1 : Int32)), .val (.int (((p6.toUInt32 >>> ((10 : Int32) &&& 31).toUInt32).toInt32) &&& (3 : Int32))), .val (.ref b18), .val (.int (1 : Int32)), .unset] [(.ref b11)]))
                  refine Gl.of (fun _ kq_ => XS.aload X23.here hx rfl (hb hby at_274) rfl rfl kq_) ?_
                  show Gl p e below _ (T23.setTop (mkF m 276 #[.val (.int p1), .val (.int p2), .val (.int p3), .val (.int p4), .val (.int p5), .val (.int p6), .val (.int l1), .val (.int l2), .val (.int f2), .val (.int g3), .val (.int g4), .val (.int y0), .val (.int y1), .val (.int y2), .val (.ref x8_), .val (.ref x9_), .val (.ref b11), .val (.ref b18), .val (.int (1 : Int32)), .val (.int (((p6.toUInt32 >>> ((10 : Int32) &&& 31).toUInt32).toInt32) &&& (3 : Int32))), .val (.ref b18), .val (.int (1 : Int32)), .unset] [(.ref b18), (.ref b11)]))
                  refine Gl.callV0 X23 hx hZ (y := (⟨"com/example/schenley/schenley/Identifier", "equals", "(Ljava/lang/Object;)Z"⟩ : MethodName)) (z := (⟨"com/example/schenley/schenley/Identifier", "equals", "(Ljava/lang/Object;)Z"⟩ : MethodName)) hown (w105 hw) (w106 hw) (notFace_of_selects (args := #[]) (mvT hZ (w108 hw))) (w108 hw) (w107 hw) (w109 hw) (w43 hw) (desc_ne (by decide)) (b := b11) (argsL := [(.ref b18)]) (rest := []) ec26 (rmQ1 l Z a0 hw _ b11 b18 x8_ x9_ t8_ t9_ kb8 kb9 (own_sp l1 f2 g3 g4) (own_sp l2 y0 y1 y2) cz ec28 fc27 F23a gc24 gc25 (SC.ext O23.2) hcz hsm) 0 (by decide) (by decide) rfl (pc := 276) (Ls := #[.val (.int p1), .val (.int p2), .val (.int p3), .val (.int p4), .val (.int p5), .val (.int p6), .val (.int l1), .val (.int l2), .val (.int f2), .val (.int g3), .val (.int g4), .val (.int y0), .val (.int y1), .val (.int y2), .val (.ref x8_), .val (.ref x9_), .val (.ref b11), .val (.ref b18), .val (.int (1 : Int32)), .val (.int (((p6.toUInt32 >>> ((10 : Int32) &&& 31).toUInt32).toInt32) &&& (3 : Int32))), .val (.ref b18), .val (.int (1 : Int32)), .unset]) (st := [(.ref b18), (.ref b11)]) (by rw [hml]; rfl) pd_7 rfl rfl (Nat.le_of_eq rfl) (hb hby at_276) (by decide) (by decide) ?_
                  intro v35 T35 X35 e35 hv35
                  subst hv35
                  show Gl p e below _ (T35.setTop (mkF m 279 #[.val (.int p1), .val (.int p2), .val (.int p3), .val (.int p4), .val (.int p5), .val (.int p6), .val (.int l1), .val (.int l2), .val (.int f2), .val (.int g3), .val (.int g4), .val (.int y0), .val (.int y1), .val (.int y2), .val (.ref x8_), .val (.ref x9_), .val (.ref b11), .val (.ref b18), .val (.int (1 : Int32)), .val (.int (((p6.toUInt32 >>> ((10 : Int32) &&& 31).toUInt32).toInt32) &&& (3 : Int32))), .val (.ref b18), .val (.int (1 : Int32)), .unset] [(.int (1 : Int32))]))
                  refine Gl.of (fun _ kq_ => XS.istore X35.here hx rfl (hb hby at_279) rfl (l' := #[.val (.int p1), .val (.int p2), .val (.int p3), .val (.int p4), .val (.int p5), .val (.int p6), .val (.int l1), .val (.int l2), .val (.int f2), .val (.int g3), .val (.int g4), .val (.int y0), .val (.int y1), .val (.int y2), .val (.ref x8_), .val (.ref x9_), .val (.ref b11), .val (.ref b18), .val (.int (1 : Int32)), .val (.int (((p6.toUInt32 >>> ((10 : Int32) &&& 31).toUInt32).toInt32) &&& (3 : Int32))), .val (.ref b18), .val (.int (1 : Int32)), .val (.int (1 : Int32))]) rfl kq_) ?_
                  show Gl p e below _ (T35.setTop (mkF m 281 #[.val (.int p1), .val (.int p2), .val (.int p3), .val (.int p4), .val (.int p5), .val (.int p6), .val (.int l1), .val (.int l2), .val (.int f2), .val (.int g3), .val (.int g4), .val (.int y0), .val (.int y1), .val (.int y2), .val (.ref x8_), .val (.ref x9_), .val (.ref b11), .val (.ref b18), .val (.int (1 : Int32)), .val (.int (((p6.toUInt32 >>> ((10 : Int32) &&& 31).toUInt32).toInt32) &&& (3 : Int32))), .val (.ref b18), .val (.int (1 : Int32)), .val (.int (1 : Int32))] []))
                  refine Gl.of (fun _ kq_ => XS.iload X35.here hx rfl (hb hby at_281) rfl kq_) ?_
                  show Gl p e below _ (T35.setTop (mkF m 283 #[.val (.int p1), .val (.int p2), .val (.int p3), .val (.int p4), .val (.int p5), .val (.int p6), .val (.int l1), .val (.int l2), .val (.int f2), .val (.int g3), .val (.int g4), .val (.int y0), .val (.int y1), .val (.int y2), .val (.ref x8_), .val (.ref x9_), .val (.ref b11), .val (.ref b18), .val (.int (1 : Int32)), .val (.int (((p6.toUInt32 >>> ((10 : Int32) &&& 31).toUInt32).toInt32) &&& (3 : Int32))), .val (.ref b18), .val (.int (1 : Int32)), .val (.int (1 : Int32))] [(.int (1 : Int32))]))
                  refine Gl.of (fun _ kq_ => XS.iload X35.here hx rfl (hb hby at_283) rfl kq_) ?_
                  show Gl p e below _ (T35.setTop (mkF m 285 #[.val (.int p1), .val (.int p2), .val (.int p3), .val (.int p4), .val (.int p5), .val (.int p6), .val (.int l1), .val (.int l2), .val (.int f2), .val (.int g3), .val (.int g4), .val (.int y0), .val (.int y1), .val (.int y2), .val (.ref x8_), .val (.ref x9_), .val (.ref b11), .val (.ref b18), .val (.int (1 : Int32)), .val (.int (((p6.toUInt32 >>> ((10 : Int32) &&& 31).toUInt32).toInt32) &&& (3 : Int32))), .val (.ref b18), .val (.int (1 : Int32)), .val (.int (1 : Int32))] [(.int (1 : Int32)), (.int (1 : Int32))]))
                  refine Gl.of (fun _ kq_ => XS.icmpYes X35.here hx rfl (pc0 := 285) (pc' := 290) rfl (hb hby at_285) rfl (teq (by decide : (1 : Int32) = (1 : Int32))).1 (by decide) (by decide) kq_) ?_
                  show Gl p e below _ (T35.setTop (mkF m 290 #[.val (.int p1), .val (.int p2), .val (.int p3), .val (.int p4), .val (.int p5), .val (.int p6), .val (.int l1), .val (.int l2), .val (.int f2), .val (.int g3), .val (.int g4), .val (.int y0), .val (.int y1), .val (.int y2), .val (.ref x8_), .val (.ref x9_), .val (.ref b11), .val (.ref b18), .val (.int (1 : Int32)), .val (.int (((p6.toUInt32 >>> ((10 : Int32) &&& 31).toUInt32).toInt32) &&& (3 : Int32))), .val (.ref b18), .val (.int (1 : Int32)), .val (.int (1 : Int32))] []))
                  refine Gl.of (fun _ kq_ => XS.iload X35.here hx rfl (hb hby at_290) rfl kq_) ?_
                  show Gl p e below _ (T35.setTop (mkF m 292 #[.val (.int p1), .val (.int p2), .val (.int p3), .val (.int p4), .val (.int p5), .val (.int p6), .val (.int l1), .val (.int l2), .val (.int f2), .val (.int g3), .val (.int g4), .val (.int y0), .val (.int y1), .val (.int y2), .val (.ref x8_), .val (.ref x9_), .val (.ref b11), .val (.ref b18), .val (.int (1 : Int32)), .val (.int (((p6.toUInt32 >>> ((10 : Int32) &&& 31).toUInt32).toInt32) &&& (3 : Int32))), .val (.ref b18), .val (.int (1 : Int32)), .val (.int (1 : Int32))] [(.int (((p6.toUInt32 >>> ((10 : Int32) &&& 31).toUInt32).toInt32) &&& (3 : Int32)))]))
                  refine Gl.of (fun _ kq_ => XS.iconst X35.here hx rfl (hb hby at_292) kq_) ?_
                  show Gl p e below _ (T35.setTop (mkF m 293 #[.val (.int p1), .val (.int p2), .val (.int p3), .val (.int p4), .val (.int p5), .val (.int p6), .val (.int l1), .val (.int l2), .val (.int f2), .val (.int g3), .val (.int g4), .val (.int y0), .val (.int y1), .val (.int y2), .val (.ref x8_), .val (.ref x9_), .val (.ref b11), .val (.ref b18), .val (.int (1 : Int32)), .val (.int (((p6.toUInt32 >>> ((10 : Int32) &&& 31).toUInt32).toInt32) &&& (3 : Int32))), .val (.ref b18), .val (.int (1 : Int32)), .val (.int (1 : Int32))] [(.int (2 : Int32)), (.int (((p6.toUInt32 >>> ((10 : Int32) &&& 31).toUInt32).toInt32) &&& (3 : Int32)))]))
                  refine Gl.of (fun _ kq_ => XS.icmpNo X35.here hx rfl (hb hby at_293) rfl (tlt (own_k _ hc228_29 hc240_32 : (((p6.toUInt32 >>> ((10 : Int32) &&& 31).toUInt32).toInt32) &&& (3 : Int32)) < (2 : Int32))).2.1 kq_) ?_
                  show Gl p e below _ (T35.setTop (mkF m 296 #[.val (.int p1), .val (.int p2), .val (.int p3), .val (.int p4), .val (.int p5), .val (.int p6), .val (.int l1), .val (.int l2), .val (.int f2), .val (.int g3), .val (.int g4), .val (.int y0), .val (.int y1), .val (.int y2), .val (.ref x8_), .val (.ref x9_), .val (.ref b11), .val (.ref b18), .val (.int (1 : Int32)), .val (.int (((p6.toUInt32 >>> ((10 : Int32) &&& 31).toUInt32).toInt32) &&& (3 : Int32))), .val (.ref b18), .val (.int (1 : Int32)), .val (.int (1 : Int32))] []))
                  refine Gl.of (fun _ kq_ => XS.aload X35.here hx rfl (hb hby at_296) rfl rfl kq_) ?_
                  show Gl p e below _ (T35.setTop (mkF m 298 #[.val (.int p1), .val (.int p2), .val (.int p3), .val (.int p4), .val (.int p5), .val (.int p6), .val (.int l1), .val (.int l2), .val (.int f2), .val (.int g3), .val (.int g4), .val (.int y0), .val (.int y1), .val (.int y2), .val (.ref x8_), .val (.ref x9_), .val (.ref b11), .val (.ref b18), .val (.int (1 : Int32)), .val (.int (((p6.toUInt32 >>> ((10 : Int32) &&& 31).toUInt32).toInt32) &&& (3 : Int32))), .val (.ref b18), .val (.int (1 : Int32)), .val (.int (1 : Int32))] [(.ref b18)]))
                  refine Gl.of (fun _ kq_ => XS.aload X35.here hx rfl (hb hby at_298) rfl rfl kq_) ?_
                  show Gl p e below _ (T35.setTop (mkF m 300 #[.val (.int p1), .val (.int p2), .val (.int p3), .val (.int p4), .val (.int p5), .val (.int p6), .val (.int l1), .val (.int l2), .val (.int f2), .val (.int g3), .val (.int g4), .val (.int y0), .val (.int y1), .val (.int y2), .val (.ref x8_), .val (.ref x9_), .val (.ref b11), .val (.ref b18), .val (.int (1 : Int32)), .val (.int (((p6.toUInt32 >>> ((10 : Int32) &&& 31).toUInt32).toInt32) &&& (3 : Int32))), .val (.ref b18), .val (.int (1 : Int32)), .val (.int (1 : Int32))] [(.ref b11), (.ref b18)]))
                  refine Gl.callV0 X35 hx hZ (y := (⟨"com/example/schenley/schenley/Identifier", "equals", "(Ljava/lang/Object;)Z"⟩ : MethodName)) (z := (⟨"com/example/schenley/schenley/Identifier", "equals", "(Ljava/lang/Object;)Z"⟩ : MethodName)) hown (w105 hw) (w106 hw) (notFace_of_selects (args := #[]) (mvT hZ (w108 hw))) (w108 hw) (w107 hw) (w109 hw) (w43 hw) (desc_ne (by decide)) (b := b18) (argsL := [(.ref b11)]) (rest := []) ec28 (rmQ1 l Z a0 hw _ b18 b11 x9_ x8_ t9_ t8_ kb9 kb8 (own_sp l2 y0 y1 y2) (own_sp l1 f2 g3 g4) cz ec26 F23a fc27 gc25 gc24 (SC.ext O23.2) hcz hsm.symm) 0 (by decide) (by decide) e35 (pc := 300) (Ls := #[.val (.int p1), .val (.int p2), .val (.int p3), .val (.int p4), .val (.int p5), .val (.int p6), .val (.int l1), .val (.int l2), .val (.int f2), .val (.int g3), .val (.int g4), .val (.int y0), .val (.int y1), .val (.int y2), .val (.ref x8_), .val (.ref x9_), .val (.ref b11), .val (.ref b18), .val (.int (1 : Int32)), .val (.int (((p6.toUInt32 >>> ((10 : Int32) &&& 31).toUInt32).toInt32) &&& (3 : Int32))), .val (.ref b18), .val (.int (1 : Int32)), .val (.int (1 : Int32))]) (st := [(.ref b11), (.ref b18)]) (by rw [hml]; rfl) pd_7 rfl rfl (Nat.le_of_eq rfl) (hb hby at_300) (by decide) (by decide) ?_
                  intro v36 T36 X36 e36 hv36
                  subst hv36
                  show Gl p e below _ (T36.setTop (mkF m 303 #[.val (.int p1), .val (.int p2), .val (.int p3), .val (.int p4), .val (.int p5), .val (.int p6), .val (.int l1), .val (.int l2), .val (.int f2), .val (.int g3), .val (.int g4), .val (.int y0), .val (.int y1), .val (.int y2), .val (.ref x8_), .val (.ref x9_), .val (.ref b11), .val (.ref b18), .val (.int (1 : Int32)), .val (.int (((p6.toUInt32 >>> ((10 : Int32) &&& 31).toUInt32).toInt32) &&& (3 : Int32))), .val (.ref b18), .val (.int (1 : Int32)), .val (.int (1 : Int32))] [(.int (1 : Int32))]))
                  refine Gl.of (fun _ kq_ => XS.iload X36.here hx rfl (hb hby at_303) rfl kq_) ?_
                  show Gl p e below _ (T36.setTop (mkF m 305 #[.val (.int p1), .val (.int p2), .val (.int p3), .val (.int p4), .val (.int p5), .val (.int p6), .val (.int l1), .val (.int l2), .val (.int f2), .val (.int g3), .val (.int g4), .val (.int y0), .val (.int y1), .val (.int y2), .val (.ref x8_), .val (.ref x9_), .val (.ref b11), .val (.ref b18), .val (.int (1 : Int32)), .val (.int (((p6.toUInt32 >>> ((10 : Int32) &&& 31).toUInt32).toInt32) &&& (3 : Int32))), .val (.ref b18), .val (.int (1 : Int32)), .val (.int (1 : Int32))] [(.int (1 : Int32)), (.int (1 : Int32))]))
                  refine Gl.of (fun _ kq_ => XS.icmpYes X36.here hx rfl (pc0 := 305) (pc' := 310) rfl (hb hby at_305) rfl (teq (by decide : (1 : Int32) = (1 : Int32))).1 (by decide) (by decide) kq_) ?_
                  show Gl p e below _ (T36.setTop (mkF m 310 #[.val (.int p1), .val (.int p2), .val (.int p3), .val (.int p4), .val (.int p5), .val (.int p6), .val (.int l1), .val (.int l2), .val (.int f2), .val (.int g3), .val (.int g4), .val (.int y0), .val (.int y1), .val (.int y2), .val (.ref x8_), .val (.ref x9_), .val (.ref b11), .val (.ref b18), .val (.int (1 : Int32)), .val (.int (((p6.toUInt32 >>> ((10 : Int32) &&& 31).toUInt32).toInt32) &&& (3 : Int32))), .val (.ref b18), .val (.int (1 : Int32)), .val (.int (1 : Int32))] []))
                  refine Gl.of (fun _ kq_ => XS.aload X36.here hx rfl (hb hby at_310) rfl rfl kq_) ?_
                  show Gl p e below _ (T36.setTop (mkF m 312 #[.val (.int p1), .val (.int p2), .val (.int p3), .val (.int p4), .val (.int p5), .val (.int p6), .val (.int l1), .val (.int l2), .val (.int f2), .val (.int g3), .val (.int g4), .val (.int y0), .val (.int y1), .val (.int y2), .val (.ref x8_), .val (.ref x9_), .val (.ref b11), .val (.ref b18), .val (.int (1 : Int32)), .val (.int (((p6.toUInt32 >>> ((10 : Int32) &&& 31).toUInt32).toInt32) &&& (3 : Int32))), .val (.ref b18), .val (.int (1 : Int32)), .val (.int (1 : Int32))] [(.ref b11)]))
                  refine Gl.of (fun _ kq_ => XS.aload X36.here hx rfl (hb hby at_312) rfl rfl kq_) ?_
                  show Gl p e below _ (T36.setTop (mkF m 314 #[.val (.int p1), .val (.int p2), .val (.int p3), .val (.int p4), .val (.int p5), .val (.int p6), .val (.int l1), .val (.int l2), .val (.int f2), .val (.int g3), .val (.int g4), .val (.int y0), .val (.int y1), .val (.int y2), .val (.ref x8_), .val (.ref x9_), .val (.ref b11), .val (.ref b18), .val (.int (1 : Int32)), .val (.int (((p6.toUInt32 >>> ((10 : Int32) &&& 31).toUInt32).toInt32) &&& (3 : Int32))), .val (.ref b18), .val (.int (1 : Int32)), .val (.int (1 : Int32))] [(.ref b11), (.ref b11)]))
                  refine Gl.callV0 X36 hx hZ (y := (⟨"com/example/schenley/schenley/Identifier", "equals", "(Ljava/lang/Object;)Z"⟩ : MethodName)) (z := (⟨"com/example/schenley/schenley/Identifier", "equals", "(Ljava/lang/Object;)Z"⟩ : MethodName)) hown (w105 hw) (w106 hw) (notFace_of_selects (args := #[]) (mvT hZ (w108 hw))) (w108 hw) (w107 hw) (w109 hw) (w43 hw) (desc_ne (by decide)) (b := b11) (argsL := [(.ref b11)]) (rest := []) ec26 (rmQ1 l Z a0 hw _ b11 b11 x8_ x8_ t8_ t8_ kb8 kb8 (own_sp l1 f2 g3 g4) (own_sp l1 f2 g3 g4) cz ec26 fc27 fc27 gc24 gc24 (SC.ext O23.2) hcz rfl) 0 (by decide) (by decide) e36 (pc := 314) (Ls := #[.val (.int p1), .val (.int p2), .val (.int p3), .val (.int p4), .val (.int p5), .val (.int p6), .val (.int l1), .val (.int l2), .val (.int f2), .val (.int g3), .val (.int g4), .val (.int y0), .val (.int y1), .val (.int y2), .val (.ref x8_), .val (.ref x9_), .val (.ref b11), .val (.ref b18), .val (.int (1 : Int32)), .val (.int (((p6.toUInt32 >>> ((10 : Int32) &&& 31).toUInt32).toInt32) &&& (3 : Int32))), .val (.ref b18), .val (.int (1 : Int32)), .val (.int (1 : Int32))]) (st := [(.ref b11), (.ref b11)]) (by rw [hml]; rfl) pd_7 rfl rfl (Nat.le_of_eq rfl) (hb hby at_314) (by decide) (by decide) ?_
                  intro v37 T37 X37 e37 hv37
                  subst hv37
                  show Gl p e below _ (T37.setTop (mkF m 317 #[.val (.int p1), .val (.int p2), .val (.int p3), .val (.int p4), .val (.int p5), .val (.int p6), .val (.int l1), .val (.int l2), .val (.int f2), .val (.int g3), .val (.int g4), .val (.int y0), .val (.int y1), .val (.int y2), .val (.ref x8_), .val (.ref x9_), .val (.ref b11), .val (.ref b18), .val (.int (1 : Int32)), .val (.int (((p6.toUInt32 >>> ((10 : Int32) &&& 31).toUInt32).toInt32) &&& (3 : Int32))), .val (.ref b18), .val (.int (1 : Int32)), .val (.int (1 : Int32))] [(.int (1 : Int32))]))
                  exact Gl.retNW X37 hx hlk hret (by simp) (hb hby at_317) e37 (⟨rfl, N23⟩) hS23 (Nat.le_refl _) (by decide) (by decide)
            · show Gl p e below _ (T23.setTop (mkF m 216 #[.val (.int p1), .val (.int p2), .val (.int p3), .val (.int p4), .val (.int p5), .val (.int p6), .val (.int l1), .val (.int l2), .val (.int f2), .val (.int g3), .val (.int g4), .val (.int y0), .val (.int y1), .val (.int y2), .val (.ref x8_), .val (.ref x9_), .val (.ref b11), .val (.ref b18), .val (.int (0 : Int32)), .unset, .unset, .unset, .unset] []))
              refine Gl.of (fun _ kq_ => XS.iload X23.here hx rfl (hb hby at_216) rfl kq_) ?_
              show Gl p e below _ (T23.setTop (mkF m 218 #[.val (.int p1), .val (.int p2), .val (.int p3), .val (.int p4), .val (.int p5), .val (.int p6), .val (.int l1), .val (.int l2), .val (.int f2), .val (.int g3), .val (.int g4), .val (.int y0), .val (.int y1), .val (.int y2), .val (.ref x8_), .val (.ref x9_), .val (.ref b11), .val (.ref b18), .val (.int (0 : Int32)), .unset, .unset, .unset, .unset] [(.int p6)]))
              refine Gl.of (fun _ kq_ => XS.bipush X23.here hx rfl (hb hby at_218) kq_) ?_
              show Gl p e below _ (T23.setTop (mkF m 220 #[.val (.int p1), .val (.int p2), .val (.int p3), .val (.int p4), .val (.int p5), .val (.int p6), .val (.int l1), .val (.int l2), .val (.int f2), .val (.int g3), .val (.int g4), .val (.int y0), .val (.int y1), .val (.int y2), .val (.ref x8_), .val (.ref x9_), .val (.ref b11), .val (.ref b18), .val (.int (0 : Int32)), .unset, .unset, .unset, .unset] [(.int (10 : Int32)), (.int p6)]))
              refine Gl.of (fun _ kq_ => XS.iushr X23.here hx rfl (hb hby at_220) rfl kq_) ?_
              show Gl p e below _ (T23.setTop (mkF m 221 #[.val (.int p1), .val (.int p2), .val (.int p3), .val (.int p4), .val (.int p5), .val (.int p6), .val (.int l1), .val (.int l2), .val (.int f2), .val (.int g3), .val (.int g4), .val (.int y0), .val (.int y1), .val (.int y2), .val (.ref x8_), .val (.ref x9_), .val (.ref b11), .val (.ref b18), .val (.int (0 : Int32)), .unset, .unset, .unset, .unset] [(.int ((p6.toUInt32 >>> ((10 : Int32) &&& 31).toUInt32).toInt32))]))
              refine Gl.of (fun _ kq_ => XS.iconst X23.here hx rfl (hb hby at_221) kq_) ?_
              show Gl p e below _ (T23.setTop (mkF m 222 #[.val (.int p1), .val (.int p2), .val (.int p3), .val (.int p4), .val (.int p5), .val (.int p6), .val (.int l1), .val (.int l2), .val (.int f2), .val (.int g3), .val (.int g4), .val (.int y0), .val (.int y1), .val (.int y2), .val (.ref x8_), .val (.ref x9_), .val (.ref b11), .val (.ref b18), .val (.int (0 : Int32)), .unset, .unset, .unset, .unset] [(.int (3 : Int32)), (.int ((p6.toUInt32 >>> ((10 : Int32) &&& 31).toUInt32).toInt32))]))
              refine Gl.of (fun _ kq_ => XS.iand X23.here hx rfl (hb hby at_222) rfl kq_) ?_
              show Gl p e below _ (T23.setTop (mkF m 223 #[.val (.int p1), .val (.int p2), .val (.int p3), .val (.int p4), .val (.int p5), .val (.int p6), .val (.int l1), .val (.int l2), .val (.int f2), .val (.int g3), .val (.int g4), .val (.int y0), .val (.int y1), .val (.int y2), .val (.ref x8_), .val (.ref x9_), .val (.ref b11), .val (.ref b18), .val (.int (0 : Int32)), .unset, .unset, .unset, .unset] [(.int (((p6.toUInt32 >>> ((10 : Int32) &&& 31).toUInt32).toInt32) &&& (3 : Int32)))]))
              refine Gl.of (fun _ kq_ => XS.istore X23.here hx rfl (hb hby at_223) rfl (l' := #[.val (.int p1), .val (.int p2), .val (.int p3), .val (.int p4), .val (.int p5), .val (.int p6), .val (.int l1), .val (.int l2), .val (.int f2), .val (.int g3), .val (.int g4), .val (.int y0), .val (.int y1), .val (.int y2), .val (.ref x8_), .val (.ref x9_), .val (.ref b11), .val (.ref b18), .val (.int (0 : Int32)), .val (.int (((p6.toUInt32 >>> ((10 : Int32) &&& 31).toUInt32).toInt32) &&& (3 : Int32))), .unset, .unset, .unset]) rfl kq_) ?_
              show Gl p e below _ (T23.setTop (mkF m 225 #[.val (.int p1), .val (.int p2), .val (.int p3), .val (.int p4), .val (.int p5), .val (.int p6), .val (.int l1), .val (.int l2), .val (.int f2), .val (.int g3), .val (.int g4), .val (.int y0), .val (.int y1), .val (.int y2), .val (.ref x8_), .val (.ref x9_), .val (.ref b11), .val (.ref b18), .val (.int (0 : Int32)), .val (.int (((p6.toUInt32 >>> ((10 : Int32) &&& 31).toUInt32).toInt32) &&& (3 : Int32))), .unset, .unset, .unset] []))
              refine Gl.of (fun _ kq_ => XS.iload X23.here hx rfl (hb hby at_225) rfl kq_) ?_
              show Gl p e below _ (T23.setTop (mkF m 227 #[.val (.int p1), .val (.int p2), .val (.int p3), .val (.int p4), .val (.int p5), .val (.int p6), .val (.int l1), .val (.int l2), .val (.int f2), .val (.int g3), .val (.int g4), .val (.int y0), .val (.int y1), .val (.int y2), .val (.ref x8_), .val (.ref x9_), .val (.ref b11), .val (.ref b18), .val (.int (0 : Int32)), .val (.int (((p6.toUInt32 >>> ((10 : Int32) &&& 31).toUInt32).toInt32) &&& (3 : Int32))), .unset, .unset, .unset] [(.int (((p6.toUInt32 >>> ((10 : Int32) &&& 31).toUInt32).toInt32) &&& (3 : Int32)))]))
              refine Gl.of (fun _ kq_ => XS.iconst X23.here hx rfl (hb hby at_227) kq_) ?_
              show Gl p e below _ (T23.setTop (mkF m 228 #[.val (.int p1), .val (.int p2), .val (.int p3), .val (.int p4), .val (.int p5), .val (.int p6), .val (.int l1), .val (.int l2), .val (.int f2), .val (.int g3), .val (.int g4), .val (.int y0), .val (.int y1), .val (.int y2), .val (.ref x8_), .val (.ref x9_), .val (.ref b11), .val (.ref b18), .val (.int (0 : Int32)), .val (.int (((p6.toUInt32 >>> ((10 : Int32) &&& 31).toUInt32).toInt32) &&& (3 : Int32))), .unset, .unset, .unset] [(.int (2 : Int32)), (.int (((p6.toUInt32 >>> ((10 : Int32) &&& 31).toUInt32).toInt32) &&& (3 : Int32)))]))
              by_cases hc228_38 : (((p6.toUInt32 >>> ((10 : Int32) &&& 31).toUInt32).toInt32) &&& (3 : Int32)) = (2 : Int32)
              · refine Gl.of (fun _ kq_ => XS.icmpNo X23.here hx rfl (hb hby at_228) rfl (teq hc228_38).2 kq_) ?_
                show Gl p e below _ (T23.setTop (mkF m 231 #[.val (.int p1), .val (.int p2), .val (.int p3), .val (.int p4), .val (.int p5), .val (.int p6), .val (.int l1), .val (.int l2), .val (.int f2), .val (.int g3), .val (.int g4), .val (.int y0), .val (.int y1), .val (.int y2), .val (.ref x8_), .val (.ref x9_), .val (.ref b11), .val (.ref b18), .val (.int (0 : Int32)), .val (.int (((p6.toUInt32 >>> ((10 : Int32) &&& 31).toUInt32).toInt32) &&& (3 : Int32))), .unset, .unset, .unset] []))
                refine Gl.of (fun _ kq_ => XS.aconstNull X23.here hx rfl (hb hby at_231) kq_) ?_
                show Gl p e below _ (T23.setTop (mkF m 232 #[.val (.int p1), .val (.int p2), .val (.int p3), .val (.int p4), .val (.int p5), .val (.int p6), .val (.int l1), .val (.int l2), .val (.int f2), .val (.int g3), .val (.int g4), .val (.int y0), .val (.int y1), .val (.int y2), .val (.ref x8_), .val (.ref x9_), .val (.ref b11), .val (.ref b18), .val (.int (0 : Int32)), .val (.int (((p6.toUInt32 >>> ((10 : Int32) &&& 31).toUInt32).toInt32) &&& (3 : Int32))), .unset, .unset, .unset] [.null]))
                refine Gl.of (fun _ kq_ => XS.astore X23.here hx rfl (hb hby at_232) rfl rfl (l' := #[.val (.int p1), .val (.int p2), .val (.int p3), .val (.int p4), .val (.int p5), .val (.int p6), .val (.int l1), .val (.int l2), .val (.int f2), .val (.int g3), .val (.int g4), .val (.int y0), .val (.int y1), .val (.int y2), .val (.ref x8_), .val (.ref x9_), .val (.ref b11), .val (.ref b18), .val (.int (0 : Int32)), .val (.int (((p6.toUInt32 >>> ((10 : Int32) &&& 31).toUInt32).toInt32) &&& (3 : Int32))), .val .null, .unset, .unset]) rfl kq_) ?_
                show Gl p e below _ (T23.setTop (mkF m 234 #[.val (.int p1), .val (.int p2), .val (.int p3), .val (.int p4), .val (.int p5), .val (.int p6), .val (.int l1), .val (.int l2), .val (.int f2), .val (.int g3), .val (.int g4), .val (.int y0), .val (.int y1), .val (.int y2), .val (.ref x8_), .val (.ref x9_), .val (.ref b11), .val (.ref b18), .val (.int (0 : Int32)), .val (.int (((p6.toUInt32 >>> ((10 : Int32) &&& 31).toUInt32).toInt32) &&& (3 : Int32))), .val .null, .unset, .unset] []))
                refine Gl.of (fun _ kq_ => XS.goto X23.here hx rfl (pc0 := 234) (pc' := 254) rfl (hb hby at_234) (by decide) (by decide) kq_) ?_
                show Gl p e below _ (T23.setTop (mkF m 254 #[.val (.int p1), .val (.int p2), .val (.int p3), .val (.int p4), .val (.int p5), .val (.int p6), .val (.int l1), .val (.int l2), .val (.int f2), .val (.int g3), .val (.int g4), .val (.int y0), .val (.int y1), .val (.int y2), .val (.ref x8_), .val (.ref x9_), .val (.ref b11), .val (.ref b18), .val (.int (0 : Int32)), .val (.int (((p6.toUInt32 >>> ((10 : Int32) &&& 31).toUInt32).toInt32) &&& (3 : Int32))), .val .null, .unset, .unset] []))
                refine Gl.of (fun _ kq_ => XS.iload X23.here hx rfl (hb hby at_254) rfl kq_) ?_
                show Gl p e below _ (T23.setTop (mkF m 256 #[.val (.int p1), .val (.int p2), .val (.int p3), .val (.int p4), .val (.int p5), .val (.int p6), .val (.int l1), .val (.int l2), .val (.int f2), .val (.int g3), .val (.int g4), .val (.int y0), .val (.int y1), .val (.int y2), .val (.ref x8_), .val (.ref x9_), .val (.ref b11), .val (.ref b18), .val (.int (0 : Int32)), .val (.int (((p6.toUInt32 >>> ((10 : Int32) &&& 31).toUInt32).toInt32) &&& (3 : Int32))), .val .null, .unset, .unset] [(.int (((p6.toUInt32 >>> ((10 : Int32) &&& 31).toUInt32).toInt32) &&& (3 : Int32)))]))
                refine Gl.of (fun _ kq_ => XS.iconst X23.here hx rfl (hb hby at_256) kq_) ?_
                show Gl p e below _ (T23.setTop (mkF m 257 #[.val (.int p1), .val (.int p2), .val (.int p3), .val (.int p4), .val (.int p5), .val (.int p6), .val (.int l1), .val (.int l2), .val (.int f2), .val (.int g3), .val (.int g4), .val (.int y0), .val (.int y1), .val (.int y2), .val (.ref x8_), .val (.ref x9_), .val (.ref b11), .val (.ref b18), .val (.int (0 : Int32)), .val (.int (((p6.toUInt32 >>> ((10 : Int32) &&& 31).toUInt32).toInt32) &&& (3 : Int32))), .val .null, .unset, .unset] [(.int (2 : Int32)), (.int (((p6.toUInt32 >>> ((10 : Int32) &&& 31).toUInt32).toInt32) &&& (3 : Int32)))]))
                refine Gl.of (fun _ kq_ => XS.icmpYes X23.here hx rfl (pc0 := 257) (pc' := 269) rfl (hb hby at_257) rfl (flt (by rw [hc228_38]; decide : ¬ ((((p6.toUInt32 >>> ((10 : Int32) &&& 31).toUInt32).toInt32) &&& (3 : Int32)) < (2 : Int32)))).2.1 (by decide) (by decide) kq_) ?_
                show Gl p e below _ (T23.setTop (mkF m 269 #[.val (.int p1), .val (.int p2), .val (.int p3), .val (.int p4), .val (.int p5), .val (.int p6), .val (.int l1), .val (.int l2), .val (.int f2), .val (.int g3), .val (.int g4), .val (.int y0), .val (.int y1), .val (.int y2), .val (.ref x8_), .val (.ref x9_), .val (.ref b11), .val (.ref b18), .val (.int (0 : Int32)), .val (.int (((p6.toUInt32 >>> ((10 : Int32) &&& 31).toUInt32).toInt32) &&& (3 : Int32))), .val .null, .unset, .unset] []))
                refine Gl.of (fun _ kq_ => XS.iconst X23.here hx rfl (hb hby at_269) kq_) ?_
                show Gl p e below _ (T23.setTop (mkF m 270 #[.val (.int p1), .val (.int p2), .val (.int p3), .val (.int p4), .val (.int p5), .val (.int p6), .val (.int l1), .val (.int l2), .val (.int f2), .val (.int g3), .val (.int g4), .val (.int y0), .val (.int y1), .val (.int y2), .val (.ref x8_), .val (.ref x9_), .val (.ref b11), .val (.ref b18), .val (.int (0 : Int32)), .val (.int (((p6.toUInt32 >>> ((10 : Int32) &&& 31).toUInt32).toInt32) &&& (3 : Int32))), .val .null, .unset, .unset] [(.int (0 : Int32))]))
                refine Gl.of (fun _ kq_ => XS.istore X23.here hx rfl (hb hby at_270) rfl (l' := #[.val (.int p1), .val (.int p2), .val (.int p3), .val (.int p4), .val (.int p5), .val (.int p6), .val (.int l1), .val (.int l2), .val (.int f2), .val (.int g3), .val (.int g4), .val (.int y0), .val (.int y1), .val (.int y2), .val (.ref x8_), .val (.ref x9_), .val (.ref b11), .val (.ref b18), .val (.int (0 : Int32)), .val (.int (((p6.toUInt32 >>> ((10 : Int32) &&& 31).toUInt32).toInt32) &&& (3 : Int32))), .val .null, .val (.int (0 : Int32)), .unset]) rfl kq_) ?_
                show Gl p e below _ (T23.setTop (mkF m 272 #[.val (.int p1), .val (.int p2), .val (.int p3), .val (.int p4), .val (.int p5), .val (.int p6), .val (.int l1), .val (.int l2), .val (.int f2), .val (.int g3), .val (.int g4), .val (.int y0), .val (.int y1), .val (.int y2), .val (.ref x8_), .val (.ref x9_), .val (.ref b11), .val (.ref b18), .val (.int (0 : Int32)), .val (.int (((p6.toUInt32 >>> ((10 : Int32) &&& 31).toUInt32).toInt32) &&& (3 : Int32))), .val .null, .val (.int (0 : Int32)), .unset] []))
                refine Gl.of (fun _ kq_ => XS.aload X23.here hx rfl (hb hby at_272) rfl rfl kq_) ?_
                show Gl p e below _ (T23.setTop (mkF m 274 #[.val (.int p1), .val (.int p2), .val (.int p3), .val (.int p4), .val (.int p5), .val (.int p6), .val (.int l1), .val (.int l2), .val (.int f2), .val (.int g3), .val (.int g4), .val (.int y0), .val (.int y1), .val (.int y2), .val (.ref x8_), .val (.ref x9_), .val (.ref b11), .val (.ref b18), .val (.int (0 : Int32)), .val (.int (((p6.toUInt32 >>> ((10 : Int32) &&& 31).toUInt32).toInt32) &&& (3 : Int32))), .val .null, .val (.int (0 : Int32)), .unset] [(.ref b11)]))
                refine Gl.of (fun _ kq_ => XS.aload X23.here hx rfl (hb hby at_274) rfl rfl kq_) ?_
                show Gl p e below _ (T23.setTop (mkF m 276 #[.val (.int p1), .val (.int p2), .val (.int p3), .val (.int p4), .val (.int p5), .val (.int p6), .val (.int l1), .val (.int l2), .val (.int f2), .val (.int g3), .val (.int g4), .val (.int y0), .val (.int y1), .val (.int y2), .val (.ref x8_), .val (.ref x9_), .val (.ref b11), .val (.ref b18), .val (.int (0 : Int32)), .val (.int (((p6.toUInt32 >>> ((10 : Int32) &&& 31).toUInt32).toInt32) &&& (3 : Int32))), .val .null, .val (.int (0 : Int32)), .unset] [.null, (.ref b11)]))
                refine Gl.callV0 X23 hx hZ (y := (⟨"com/example/schenley/schenley/Identifier", "equals", "(Ljava/lang/Object;)Z"⟩ : MethodName)) (z := (⟨"com/example/schenley/schenley/Identifier", "equals", "(Ljava/lang/Object;)Z"⟩ : MethodName)) hown (w105 hw) (w106 hw) (notFace_of_selects (args := #[]) (mvT hZ (w108 hw))) (w108 hw) (w107 hw) (w109 hw) (w43 hw) (desc_ne (by decide)) (b := b11) (argsL := [.null]) (rest := []) ec26 (rmQn l Z a0 hw _ b11) 0 (by decide) (by decide) rfl (pc := 276) (Ls := #[.val (.int p1), .val (.int p2), .val (.int p3), .val (.int p4), .val (.int p5), .val (.int p6), .val (.int l1), .val (.int l2), .val (.int f2), .val (.int g3), .val (.int g4), .val (.int y0), .val (.int y1), .val (.int y2), .val (.ref x8_), .val (.ref x9_), .val (.ref b11), .val (.ref b18), .val (.int (0 : Int32)), .val (.int (((p6.toUInt32 >>> ((10 : Int32) &&& 31).toUInt32).toInt32) &&& (3 : Int32))), .val .null, .val (.int (0 : Int32)), .unset]) (st := [.null, (.ref b11)]) (by rw [hml]; rfl) pd_7 rfl rfl (Nat.le_of_eq rfl) (hb hby at_276) (by decide) (by decide) ?_
                intro v39 T39 X39 e39 hv39
                subst hv39
                show Gl p e below _ (T39.setTop (mkF m 279 #[.val (.int p1), .val (.int p2), .val (.int p3), .val (.int p4), .val (.int p5), .val (.int p6), .val (.int l1), .val (.int l2), .val (.int f2), .val (.int g3), .val (.int g4), .val (.int y0), .val (.int y1), .val (.int y2), .val (.ref x8_), .val (.ref x9_), .val (.ref b11), .val (.ref b18), .val (.int (0 : Int32)), .val (.int (((p6.toUInt32 >>> ((10 : Int32) &&& 31).toUInt32).toInt32) &&& (3 : Int32))), .val .null, .val (.int (0 : Int32)), .unset] [(.int (0 : Int32))]))
                refine Gl.of (fun _ kq_ => XS.istore X39.here hx rfl (hb hby at_279) rfl (l' := #[.val (.int p1), .val (.int p2), .val (.int p3), .val (.int p4), .val (.int p5), .val (.int p6), .val (.int l1), .val (.int l2), .val (.int f2), .val (.int g3), .val (.int g4), .val (.int y0), .val (.int y1), .val (.int y2), .val (.ref x8_), .val (.ref x9_), .val (.ref b11), .val (.ref b18), .val (.int (0 : Int32)), .val (.int (((p6.toUInt32 >>> ((10 : Int32) &&& 31).toUInt32).toInt32) &&& (3 : Int32))), .val .null, .val (.int (0 : Int32)), .val (.int (0 : Int32))]) rfl kq_) ?_
                show Gl p e below _ (T39.setTop (mkF m 281 #[.val (.int p1), .val (.int p2), .val (.int p3), .val (.int p4), .val (.int p5), .val (.int p6), .val (.int l1), .val (.int l2), .val (.int f2), .val (.int g3), .val (.int g4), .val (.int y0), .val (.int y1), .val (.int y2), .val (.ref x8_), .val (.ref x9_), .val (.ref b11), .val (.ref b18), .val (.int (0 : Int32)), .val (.int (((p6.toUInt32 >>> ((10 : Int32) &&& 31).toUInt32).toInt32) &&& (3 : Int32))), .val .null, .val (.int (0 : Int32)), .val (.int (0 : Int32))] []))
                refine Gl.of (fun _ kq_ => XS.iload X39.here hx rfl (hb hby at_281) rfl kq_) ?_
                show Gl p e below _ (T39.setTop (mkF m 283 #[.val (.int p1), .val (.int p2), .val (.int p3), .val (.int p4), .val (.int p5), .val (.int p6), .val (.int l1), .val (.int l2), .val (.int f2), .val (.int g3), .val (.int g4), .val (.int y0), .val (.int y1), .val (.int y2), .val (.ref x8_), .val (.ref x9_), .val (.ref b11), .val (.ref b18), .val (.int (0 : Int32)), .val (.int (((p6.toUInt32 >>> ((10 : Int32) &&& 31).toUInt32).toInt32) &&& (3 : Int32))), .val .null, .val (.int (0 : Int32)), .val (.int (0 : Int32))] [(.int (0 : Int32))]))
                refine Gl.of (fun _ kq_ => XS.iload X39.here hx rfl (hb hby at_283) rfl kq_) ?_
                show Gl p e below _ (T39.setTop (mkF m 285 #[.val (.int p1), .val (.int p2), .val (.int p3), .val (.int p4), .val (.int p5), .val (.int p6), .val (.int l1), .val (.int l2), .val (.int f2), .val (.int g3), .val (.int g4), .val (.int y0), .val (.int y1), .val (.int y2), .val (.ref x8_), .val (.ref x9_), .val (.ref b11), .val (.ref b18), .val (.int (0 : Int32)), .val (.int (((p6.toUInt32 >>> ((10 : Int32) &&& 31).toUInt32).toInt32) &&& (3 : Int32))), .val .null, .val (.int (0 : Int32)), .val (.int (0 : Int32))] [(.int (0 : Int32)), (.int (0 : Int32))]))
                refine Gl.of (fun _ kq_ => XS.icmpYes X39.here hx rfl (pc0 := 285) (pc' := 290) rfl (hb hby at_285) rfl (teq (by decide : (0 : Int32) = (0 : Int32))).1 (by decide) (by decide) kq_) ?_
                show Gl p e below _ (T39.setTop (mkF m 290 #[.val (.int p1), .val (.int p2), .val (.int p3), .val (.int p4), .val (.int p5), .val (.int p6), .val (.int l1), .val (.int l2), .val (.int f2), .val (.int g3), .val (.int g4), .val (.int y0), .val (.int y1), .val (.int y2), .val (.ref x8_), .val (.ref x9_), .val (.ref b11), .val (.ref b18), .val (.int (0 : Int32)), .val (.int (((p6.toUInt32 >>> ((10 : Int32) &&& 31).toUInt32).toInt32) &&& (3 : Int32))), .val .null, .val (.int (0 : Int32)), .val (.int (0 : Int32))] []))
                refine Gl.of (fun _ kq_ => XS.iload X39.here hx rfl (hb hby at_290) rfl kq_) ?_
                show Gl p e below _ (T39.setTop (mkF m 292 #[.val (.int p1), .val (.int p2), .val (.int p3), .val (.int p4), .val (.int p5), .val (.int p6), .val (.int l1), .val (.int l2), .val (.int f2), .val (.int g3), .val (.int g4), .val (.int y0), .val (.int y1), .val (.int y2), .val (.ref x8_), .val (.ref x9_), .val (.ref b11), .val (.ref b18), .val (.int (0 : Int32)), .val (.int (((p6.toUInt32 >>> ((10 : Int32) &&& 31).toUInt32).toInt32) &&& (3 : Int32))), .val .null, .val (.int (0 : Int32)), .val (.int (0 : Int32))] [(.int (((p6.toUInt32 >>> ((10 : Int32) &&& 31).toUInt32).toInt32) &&& (3 : Int32)))]))
                refine Gl.of (fun _ kq_ => XS.iconst X39.here hx rfl (hb hby at_292) kq_) ?_
                show Gl p e below _ (T39.setTop (mkF m 293 #[.val (.int p1), .val (.int p2), .val (.int p3), .val (.int p4), .val (.int p5), .val (.int p6), .val (.int l1), .val (.int l2), .val (.int f2), .val (.int g3), .val (.int g4), .val (.int y0), .val (.int y1), .val (.int y2), .val (.ref x8_), .val (.ref x9_), .val (.ref b11), .val (.ref b18), .val (.int (0 : Int32)), .val (.int (((p6.toUInt32 >>> ((10 : Int32) &&& 31).toUInt32).toInt32) &&& (3 : Int32))), .val .null, .val (.int (0 : Int32)), .val (.int (0 : Int32))] [(.int (2 : Int32)), (.int (((p6.toUInt32 >>> ((10 : Int32) &&& 31).toUInt32).toInt32) &&& (3 : Int32)))]))
                refine Gl.of (fun _ kq_ => XS.icmpYes X39.here hx rfl (pc0 := 293) (pc' := 310) rfl (hb hby at_293) rfl (flt (by rw [hc228_38]; decide : ¬ ((((p6.toUInt32 >>> ((10 : Int32) &&& 31).toUInt32).toInt32) &&& (3 : Int32)) < (2 : Int32)))).2.1 (by decide) (by decide) kq_) ?_
                show Gl p e below _ (T39.setTop (mkF m 310 #[.val (.int p1), .val (.int p2), .val (.int p3), .val (.int p4), .val (.int p5), .val (.int p6), .val (.int l1), .val (.int l2), .val (.int f2), .val (.int g3), .val (.int g4), .val (.int y0), .val (.int y1), .val (.int y2), .val (.ref x8_), .val (.ref x9_), .val (.ref b11), .val (.ref b18), .val (.int (0 : Int32)), .val (.int (((p6.toUInt32 >>> ((10 : Int32) &&& 31).toUInt32).toInt32) &&& (3 : Int32))), .val .null, .val (.int (0 : Int32)), .val (.int (0 : Int32))] []))
                refine Gl.of (fun _ kq_ => XS.aload X39.here hx rfl (hb hby at_310) rfl rfl kq_) ?_
                show Gl p e below _ (T39.setTop (mkF m 312 #[.val (.int p1), .val (.int p2), .val (.int p3), .val (.int p4), .val (.int p5), .val (.int p6), .val (.int l1), .val (.int l2), .val (.int f2), .val (.int g3), .val (.int g4), .val (.int y0), .val (.int y1), .val (.int y2), .val (.ref x8_), .val (.ref x9_), .val (.ref b11), .val (.ref b18), .val (.int (0 : Int32)), .val (.int (((p6.toUInt32 >>> ((10 : Int32) &&& 31).toUInt32).toInt32) &&& (3 : Int32))), .val .null, .val (.int (0 : Int32)), .val (.int (0 : Int32))] [(.ref b11)]))
                refine Gl.of (fun _ kq_ => XS.aload X39.here hx rfl (hb hby at_312) rfl rfl kq_) ?_
                show Gl p e below _ (T39.setTop (mkF m 314 #[.val (.int p1), .val (.int p2), .val (.int p3), .val (.int p4), .val (.int p5), .val (.int p6), .val (.int l1), .val (.int l2), .val (.int f2), .val (.int g3), .val (.int g4), .val (.int y0), .val (.int y1), .val (.int y2), .val (.ref x8_), .val (.ref x9_), .val (.ref b11), .val (.ref b18), .val (.int (0 : Int32)), .val (.int (((p6.toUInt32 >>> ((10 : Int32) &&& 31).toUInt32).toInt32) &&& (3 : Int32))), .val .null, .val (.int (0 : Int32)), .val (.int (0 : Int32))] [(.ref b11), (.ref b11)]))
                refine Gl.callV0 X39 hx hZ (y := (⟨"com/example/schenley/schenley/Identifier", "equals", "(Ljava/lang/Object;)Z"⟩ : MethodName)) (z := (⟨"com/example/schenley/schenley/Identifier", "equals", "(Ljava/lang/Object;)Z"⟩ : MethodName)) hown (w105 hw) (w106 hw) (notFace_of_selects (args := #[]) (mvT hZ (w108 hw))) (w108 hw) (w107 hw) (w109 hw) (w43 hw) (desc_ne (by decide)) (b := b11) (argsL := [(.ref b11)]) (rest := []) ec26 (rmQ1 l Z a0 hw _ b11 b11 x8_ x8_ t8_ t8_ kb8 kb8 (own_sp l1 f2 g3 g4) (own_sp l1 f2 g3 g4) cz ec26 fc27 fc27 gc24 gc24 (SC.ext O23.2) hcz rfl) 0 (by decide) (by decide) e39 (pc := 314) (Ls := #[.val (.int p1), .val (.int p2), .val (.int p3), .val (.int p4), .val (.int p5), .val (.int p6), .val (.int l1), .val (.int l2), .val (.int f2), .val (.int g3), .val (.int g4), .val (.int y0), .val (.int y1), .val (.int y2), .val (.ref x8_), .val (.ref x9_), .val (.ref b11), .val (.ref b18), .val (.int (0 : Int32)), .val (.int (((p6.toUInt32 >>> ((10 : Int32) &&& 31).toUInt32).toInt32) &&& (3 : Int32))), .val .null, .val (.int (0 : Int32)), .val (.int (0 : Int32))]) (st := [(.ref b11), (.ref b11)]) (by rw [hml]; rfl) pd_7 rfl rfl (Nat.le_of_eq rfl) (hb hby at_314) (by decide) (by decide) ?_
                intro v40 T40 X40 e40 hv40
                subst hv40
                show Gl p e below _ (T40.setTop (mkF m 317 #[.val (.int p1), .val (.int p2), .val (.int p3), .val (.int p4), .val (.int p5), .val (.int p6), .val (.int l1), .val (.int l2), .val (.int f2), .val (.int g3), .val (.int g4), .val (.int y0), .val (.int y1), .val (.int y2), .val (.ref x8_), .val (.ref x9_), .val (.ref b11), .val (.ref b18), .val (.int (0 : Int32)), .val (.int (((p6.toUInt32 >>> ((10 : Int32) &&& 31).toUInt32).toInt32) &&& (3 : Int32))), .val .null, .val (.int (0 : Int32)), .val (.int (0 : Int32))] [(.int (1 : Int32))]))
                exact Gl.retNW X40 hx hlk hret (by simp) (hb hby at_317) e40 (⟨rfl, N23⟩) hS23 (Nat.le_refl _) (by decide) (by decide)
              · refine Gl.of (fun _ kq_ => XS.icmpYes X23.here hx rfl (pc0 := 228) (pc' := 237) rfl (hb hby at_228) rfl (feq hc228_38).2 (by decide) (by decide) kq_) ?_
                show Gl p e below _ (T23.setTop (mkF m 237 #[.val (.int p1), .val (.int p2), .val (.int p3), .val (.int p4), .val (.int p5), .val (.int p6), .val (.int l1), .val (.int l2), .val (.int f2), .val (.int g3), .val (.int g4), .val (.int y0), .val (.int y1), .val (.int y2), .val (.ref x8_), .val (.ref x9_), .val (.ref b11), .val (.ref b18), .val (.int (0 : Int32)), .val (.int (((p6.toUInt32 >>> ((10 : Int32) &&& 31).toUInt32).toInt32) &&& (3 : Int32))), .unset, .unset, .unset] []))
                refine Gl.of (fun _ kq_ => XS.iload X23.here hx rfl (hb hby at_237) rfl kq_) ?_
                show Gl p e below _ (T23.setTop (mkF m 239 #[.val (.int p1), .val (.int p2), .val (.int p3), .val (.int p4), .val (.int p5), .val (.int p6), .val (.int l1), .val (.int l2), .val (.int f2), .val (.int g3), .val (.int g4), .val (.int y0), .val (.int y1), .val (.int y2), .val (.ref x8_), .val (.ref x9_), .val (.ref b11), .val (.ref b18), .val (.int (0 : Int32)), .val (.int (((p6.toUInt32 >>> ((10 : Int32) &&& 31).toUInt32).toInt32) &&& (3 : Int32))), .unset, .unset, .unset] [(.int (((p6.toUInt32 >>> ((10 : Int32) &&& 31).toUInt32).toInt32) &&& (3 : Int32)))]))
                refine Gl.of (fun _ kq_ => XS.iconst X23.here hx rfl (hb hby at_239) kq_) ?_
                show Gl p e below _ (T23.setTop (mkF m 240 #[.val (.int p1), .val (.int p2), .val (.int p3), .val (.int p4), .val (.int p5), .val (.int p6), .val (.int l1), .val (.int l2), .val (.int f2), .val (.int g3), .val (.int g4), .val (.int y0), .val (.int y1), .val (.int y2), .val (.ref x8_), .val (.ref x9_), .val (.ref b11), .val (.ref b18), .val (.int (0 : Int32)), .val (.int (((p6.toUInt32 >>> ((10 : Int32) &&& 31).toUInt32).toInt32) &&& (3 : Int32))), .unset, .unset, .unset] [(.int (3 : Int32)), (.int (((p6.toUInt32 >>> ((10 : Int32) &&& 31).toUInt32).toInt32) &&& (3 : Int32)))]))
                by_cases hc240_41 : (((p6.toUInt32 >>> ((10 : Int32) &&& 31).toUInt32).toInt32) &&& (3 : Int32)) = (3 : Int32)
                · refine Gl.of (fun _ kq_ => XS.icmpNo X23.here hx rfl (hb hby at_240) rfl (teq hc240_41).2 kq_) ?_
                  show Gl p e below _ (T23.setTop (mkF m 243 #[.val (.int p1), .val (.int p2), .val (.int p3), .val (.int p4), .val (.int p5), .val (.int p6), .val (.int l1), .val (.int l2), .val (.int f2), .val (.int g3), .val (.int g4), .val (.int y0), .val (.int y1), .val (.int y2), .val (.ref x8_), .val (.ref x9_), .val (.ref b11), .val (.ref b18), .val (.int (0 : Int32)), .val (.int (((p6.toUInt32 >>> ((10 : Int32) &&& 31).toUInt32).toInt32) &&& (3 : Int32))), .unset, .unset, .unset] []))
                  refine Gl.of (fun _ kq_ => XS.aload X23.here hx rfl (hb hby at_243) rfl rfl kq_) ?_
                  show Gl p e below _ (T23.setTop (mkF m 245 #[.val (.int p1), .val (.int p2), .val (.int p3), .val (.int p4), .val (.int p5), .val (.int p6), .val (.int l1), .val (.int l2), .val (.int f2), .val (.int g3), .val (.int g4), .val (.int y0), .val (.int y1), .val (.int y2), .val (.ref x8_), .val (.ref x9_), .val (.ref b11), .val (.ref b18), .val (.int (0 : Int32)), .val (.int (((p6.toUInt32 >>> ((10 : Int32) &&& 31).toUInt32).toInt32) &&& (3 : Int32))), .unset, .unset, .unset] [(.ref x8_)]))
                  refine Gl.of (fun _ kq_ => XS.astore X23.here hx rfl (hb hby at_245) rfl rfl (l' := #[.val (.int p1), .val (.int p2), .val (.int p3), .val (.int p4), .val (.int p5), .val (.int p6), .val (.int l1), .val (.int l2), .val (.int f2), .val (.int g3), .val (.int g4), .val (.int y0), .val (.int y1), .val (.int y2), .val (.ref x8_), .val (.ref x9_), .val (.ref b11), .val (.ref b18), .val (.int (0 : Int32)), .val (.int (((p6.toUInt32 >>> ((10 : Int32) &&& 31).toUInt32).toInt32) &&& (3 : Int32))), .val (.ref x8_), .unset, .unset]) rfl kq_) ?_
                  show Gl p e below _ (T23.setTop (mkF m 247 #[.val (.int p1), .val (.int p2), .val (.int p3), .val (.int p4), .val (.int p5), .val (.int p6), .val (.int l1), .val (.int l2), .val (.int f2), .val (.int g3), .val (.int g4), .val (.int y0), .val (.int y1), .val (.int y2), .val (.ref x8_), .val (.ref x9_), .val (.ref b11), .val (.ref b18), .val (.int (0 : Int32)), .val (.int (((p6.toUInt32 >>> ((10 : Int32) &&& 31).toUInt32).toInt32) &&& (3 : Int32))), .val (.ref x8_), .unset, .unset] []))
                  refine Gl.of (fun _ kq_ => XS.goto X23.here hx rfl (pc0 := 247) (pc' := 254) rfl (hb hby at_247) (by decide) (by decide) kq_) ?_
                  show Gl p e below _ (T23.setTop (mkF m 254 #[.val (.int p1), .val (.int p2), .val (.int p3), .val (.int p4), .val (.int p5), .val (.int p6), .val (.int l1), .val (.int l2), .val (.int f2), .val (.int g3), .val (.int g4), .val (.int y0), .val (.int y1), .val (.int y2), .val (.ref x8_), .val (.ref x9_), .val (.ref b11), .val (.ref b18), .val (.int (0 : Int32)), .val (.int (((p6.toUInt32 >>> ((10 : Int32) &&& 31).toUInt32).toInt32) &&& (3 : Int32))), .val (.ref x8_), .unset, .unset] []))
                  refine Gl.of (fun _ kq_ => XS.iload X23.here hx rfl (hb hby at_254) rfl kq_) ?_
                  show Gl p e below _ (T23.setTop (mkF m 256 #[.val (.int p1), .val (.int p2), .val (.int p3), .val (.int p4), .val (.int p5), .val (.int p6), .val (.int l1), .val (.int l2), .val (.int f2), .val (.int g3), .val (.int g4), .val (.int y0), .val (.int y1), .val (.int y2), .val (.ref x8_), .val (.ref x9_), .val (.ref b11), .val (.ref b18), .val (.int (0 : Int32)), .val (.int (((p6.toUInt32 >>> ((10 : Int32) &&& 31).toUInt32).toInt32) &&& (3 : Int32))), .val (.ref x8_), .unset, .unset] [(.int (((p6.toUInt32 >>> ((10 : Int32) &&& 31).toUInt32).toInt32) &&& (3 : Int32)))]))
                  refine Gl.of (fun _ kq_ => XS.iconst X23.here hx rfl (hb hby at_256) kq_) ?_
                  show Gl p e below _ (T23.setTop (mkF m 257 #[.val (.int p1), .val (.int p2), .val (.int p3), .val (.int p4), .val (.int p5), .val (.int p6), .val (.int l1), .val (.int l2), .val (.int f2), .val (.int g3), .val (.int g4), .val (.int y0), .val (.int y1), .val (.int y2), .val (.ref x8_), .val (.ref x9_), .val (.ref b11), .val (.ref b18), .val (.int (0 : Int32)), .val (.int (((p6.toUInt32 >>> ((10 : Int32) &&& 31).toUInt32).toInt32) &&& (3 : Int32))), .val (.ref x8_), .unset, .unset] [(.int (2 : Int32)), (.int (((p6.toUInt32 >>> ((10 : Int32) &&& 31).toUInt32).toInt32) &&& (3 : Int32)))]))
                  refine Gl.of (fun _ kq_ => XS.icmpYes X23.here hx rfl (pc0 := 257) (pc' := 269) rfl (hb hby at_257) rfl (flt (by rw [hc240_41]; decide : ¬ ((((p6.toUInt32 >>> ((10 : Int32) &&& 31).toUInt32).toInt32) &&& (3 : Int32)) < (2 : Int32)))).2.1 (by decide) (by decide) kq_) ?_
                  show Gl p e below _ (T23.setTop (mkF m 269 #[.val (.int p1), .val (.int p2), .val (.int p3), .val (.int p4), .val (.int p5), .val (.int p6), .val (.int l1), .val (.int l2), .val (.int f2), .val (.int g3), .val (.int g4), .val (.int y0), .val (.int y1), .val (.int y2), .val (.ref x8_), .val (.ref x9_), .val (.ref b11), .val (.ref b18), .val (.int (0 : Int32)), .val (.int (((p6.toUInt32 >>> ((10 : Int32) &&& 31).toUInt32).toInt32) &&& (3 : Int32))), .val (.ref x8_), .unset, .unset] []))
                  refine Gl.of (fun _ kq_ => XS.iconst X23.here hx rfl (hb hby at_269) kq_) ?_
                  show Gl p e below _ (T23.setTop (mkF m 270 #[.val (.int p1), .val (.int p2), .val (.int p3), .val (.int p4), .val (.int p5), .val (.int p6), .val (.int l1), .val (.int l2), .val (.int f2), .val (.int g3), .val (.int g4), .val (.int y0), .val (.int y1), .val (.int y2), .val (.ref x8_), .val (.ref x9_), .val (.ref b11), .val (.ref b18), .val (.int (0 : Int32)), .val (.int (((p6.toUInt32 >>> ((10 : Int32) &&& 31).toUInt32).toInt32) &&& (3 : Int32))), .val (.ref x8_), .unset, .unset] [(.int (0 : Int32))]))
                  refine Gl.of (fun _ kq_ => XS.istore X23.here hx rfl (hb hby at_270) rfl (l' := #[.val (.int p1), .val (.int p2), .val (.int p3), .val (.int p4), .val (.int p5), .val (.int p6), .val (.int l1), .val (.int l2), .val (.int f2), .val (.int g3), .val (.int g4), .val (.int y0), .val (.int y1), .val (.int y2), .val (.ref x8_), .val (.ref x9_), .val (.ref b11), .val (.ref b18), .val (.int (0 : Int32)), .val (.int (((p6.toUInt32 >>> ((10 : Int32) &&& 31).toUInt32).toInt32) &&& (3 : Int32))), .val (.ref x8_), .val (.int (0 : Int32)), .unset]) rfl kq_) ?_
                  show Gl p e below _ (T23.setTop (mkF m 272 #[.val (.int p1), .val (.int p2), .val (.int p3), .val (.int p4), .val (.int p5), .val (.int p6), .val (.int l1), .val (.int l2), .val (.int f2), .val (.int g3), .val (.int g4), .val (.int y0), .val (.int y1), .val (.int y2), .val (.ref x8_), .val (.ref x9_), .val (.ref b11), .val (.ref b18), .val (.int (0 : Int32)), .val (.int (((p6.toUInt32 >>> ((10 : Int32) &&& 31).toUInt32).toInt32) &&& (3 : Int32))), .val (.ref x8_), .val (.int (0 : Int32)), .unset] []))
                  refine Gl.of (fun _ kq_ => XS.aload X23.here hx rfl (hb hby at_272) rfl rfl kq_) ?_
                  show Gl p e below _ (T23.setTop (mkF m 274 #[.val (.int p1), .val (.int p2), .val (.int p3), .val (.int p4), .val (.int p5), .val (.int p6), .val (.int l1), .val (.int l2), .val (.int f2), .val (.int g3), .val (.int g4), .val (.int y0), .val (.int y1), .val (.int y2), .val (.ref x8_), .val (.ref x9_), .val (.ref b11), .val (.ref b18), .val (.int (0 : Int32)), .val (.int (((p6.toUInt32 >>> ((10 : Int32) &&& 31).toUInt32).toInt32) &&& (3 : Int32))), .val (.ref x8_), .val (.int (0 : Int32)), .unset] [(.ref b11)]))
                  refine Gl.of (fun _ kq_ => XS.aload X23.here hx rfl (hb hby at_274) rfl rfl kq_) ?_
                  show Gl p e below _ (T23.setTop (mkF m 276 #[.val (.int p1), .val (.int p2), .val (.int p3), .val (.int p4), .val (.int p5), .val (.int p6), .val (.int l1), .val (.int l2), .val (.int f2), .val (.int g3), .val (.int g4), .val (.int y0), .val (.int y1), .val (.int y2), .val (.ref x8_), .val (.ref x9_), .val (.ref b11), .val (.ref b18), .val (.int (0 : Int32)), .val (.int (((p6.toUInt32 >>> ((10 : Int32) &&& 31).toUInt32).toInt32) &&& (3 : Int32))), .val (.ref x8_), .val (.int (0 : Int32)), .unset] [(.ref x8_), (.ref b11)]))
                  refine Gl.callV0 X23 hx hZ (y := (⟨"com/example/schenley/schenley/Identifier", "equals", "(Ljava/lang/Object;)Z"⟩ : MethodName)) (z := (⟨"com/example/schenley/schenley/Identifier", "equals", "(Ljava/lang/Object;)Z"⟩ : MethodName)) hown (w105 hw) (w106 hw) (notFace_of_selects (args := #[]) (mvT hZ (w108 hw))) (w108 hw) (w107 hw) (w109 hw) (w43 hw) (desc_ne (by decide)) (b := b11) (argsL := [(.ref x8_)]) (rest := []) ec26 (rmQs l Z a0 hw _ b11 x8_ gc24.1) 0 (by decide) (by decide) rfl (pc := 276) (Ls := #[.val (.int p1), .val (.int p2), .val (.int p3), .val (.int p4), .val (.int p5), .val (.int p6), .val (.int l1), .val (.int l2), .val (.int f2), .val (.int g3), .val (.int g4), .val (.int y0), .val (.int y1), .val (.int y2), .val (.ref x8_), .val (.ref x9_), .val (.ref b11), .val (.ref b18), .val (.int (0 : Int32)), .val (.int (((p6.toUInt32 >>> ((10 : Int32) &&& 31).toUInt32).toInt32) &&& (3 : Int32))), .val (.ref x8_), .val (.int (0 : Int32)), .unset]) (st := [(.ref x8_), (.ref b11)]) (by rw [hml]; rfl) pd_7 rfl rfl (Nat.le_of_eq rfl) (hb hby at_276) (by decide) (by decide) ?_
                  intro v42 T42 X42 e42 hv42
                  subst hv42
                  show Gl p e below _ (T42.setTop (mkF m 279 #[.val (.int p1), .val (.int p2), .val (.int p3), .val (.int p4), .val (.int p5), .val (.int p6), .val (.int l1), .val (.int l2), .val (.int f2), .val (.int g3), .val (.int g4), .val (.int y0), .val (.int y1), .val (.int y2), .val (.ref x8_), .val (.ref x9_), .val (.ref b11), .val (.ref b18), .val (.int (0 : Int32)), .val (.int (((p6.toUInt32 >>> ((10 : Int32) &&& 31).toUInt32).toInt32) &&& (3 : Int32))), .val (.ref x8_), .val (.int (0 : Int32)), .unset] [(.int (0 : Int32))]))
                  refine Gl.of (fun _ kq_ => XS.istore X42.here hx rfl (hb hby at_279) rfl (l' := #[.val (.int p1), .val (.int p2), .val (.int p3), .val (.int p4), .val (.int p5), .val (.int p6), .val (.int l1), .val (.int l2), .val (.int f2), .val (.int g3), .val (.int g4), .val (.int y0), .val (.int y1), .val (.int y2), .val (.ref x8_), .val (.ref x9_), .val (.ref b11), .val (.ref b18), .val (.int (0 : Int32)), .val (.int (((p6.toUInt32 >>> ((10 : Int32) &&& 31).toUInt32).toInt32) &&& (3 : Int32))), .val (.ref x8_), .val (.int (0 : Int32)), .val (.int (0 : Int32))]) rfl kq_) ?_
                  show Gl p e below _ (T42.setTop (mkF m 281 #[.val (.int p1), .val (.int p2), .val (.int p3), .val (.int p4), .val (.int p5), .val (.int p6), .val (.int l1), .val (.int l2), .val (.int f2), .val (.int g3), .val (.int g4), .val (.int y0), .val (.int y1), .val (.int y2), .val (.ref x8_), .val (.ref x9_), .val (.ref b11), .val (.ref b18), .val (.int (0 : Int32)), .val (.int (((p6.toUInt32 >>> ((10 : Int32) &&& 31).toUInt32).toInt32) &&& (3 : Int32))), .val (.ref x8_), .val (.int (0 : Int32)), .val (.int (0 : Int32))] []))
                  refine Gl.of (fun _ kq_ => XS.iload X42.here hx rfl (hb hby at_281) rfl kq_) ?_
                  show Gl p e below _ (T42.setTop (mkF m 283 #[.val (.int p1), .val (.int p2), .val (.int p3), .val (.int p4), .val (.int p5), .val (.int p6), .val (.int l1), .val (.int l2), .val (.int f2), .val (.int g3), .val (.int g4), .val (.int y0), .val (.int y1), .val (.int y2), .val (.ref x8_), .val (.ref x9_), .val (.ref b11), .val (.ref b18), .val (.int (0 : Int32)), .val (.int (((p6.toUInt32 >>> ((10 : Int32) &&& 31).toUInt32).toInt32) &&& (3 : Int32))), .val (.ref x8_), .val (.int (0 : Int32)), .val (.int (0 : Int32))] [(.int (0 : Int32))]))
                  refine Gl.of (fun _ kq_ => XS.iload X42.here hx rfl (hb hby at_283) rfl kq_) ?_
                  show Gl p e below _ (T42.setTop (mkF m 285 #[.val (.int p1), .val (.int p2), .val (.int p3), .val (.int p4), .val (.int p5), .val (.int p6), .val (.int l1), .val (.int l2), .val (.int f2), .val (.int g3), .val (.int g4), .val (.int y0), .val (.int y1), .val (.int y2), .val (.ref x8_), .val (.ref x9_), .val (.ref b11), .val (.ref b18), .val (.int (0 : Int32)), .val (.int (((p6.toUInt32 >>> ((10 : Int32) &&& 31).toUInt32).toInt32) &&& (3 : Int32))), .val (.ref x8_), .val (.int (0 : Int32)), .val (.int (0 : Int32))] [(.int (0 : Int32)), (.int (0 : Int32))]))
                  refine Gl.of (fun _ kq_ => XS.icmpYes X42.here hx rfl (pc0 := 285) (pc' := 290) rfl (hb hby at_285) rfl (teq (by decide : (0 : Int32) = (0 : Int32))).1 (by decide) (by decide) kq_) ?_
                  show Gl p e below _ (T42.setTop (mkF m 290 #[.val (.int p1), .val (.int p2), .val (.int p3), .val (.int p4), .val (.int p5), .val (.int p6), .val (.int l1), .val (.int l2), .val (.int f2), .val (.int g3), .val (.int g4), .val (.int y0), .val (.int y1), .val (.int y2), .val (.ref x8_), .val (.ref x9_), .val (.ref b11), .val (.ref b18), .val (.int (0 : Int32)), .val (.int (((p6.toUInt32 >>> ((10 : Int32) &&& 31).toUInt32).toInt32) &&& (3 : Int32))), .val (.ref x8_), .val (.int (0 : Int32)), .val (.int (0 : Int32))] []))
                  refine Gl.of (fun _ kq_ => XS.iload X42.here hx rfl (hb hby at_290) rfl kq_) ?_
                  show Gl p e below _ (T42.setTop (mkF m 292 #[.val (.int p1), .val (.int p2), .val (.int p3), .val (.int p4), .val (.int p5), .val (.int p6), .val (.int l1), .val (.int l2), .val (.int f2), .val (.int g3), .val (.int g4), .val (.int y0), .val (.int y1), .val (.int y2), .val (.ref x8_), .val (.ref x9_), .val (.ref b11), .val (.ref b18), .val (.int (0 : Int32)), .val (.int (((p6.toUInt32 >>> ((10 : Int32) &&& 31).toUInt32).toInt32) &&& (3 : Int32))), .val (.ref x8_), .val (.int (0 : Int32)), .val (.int (0 : Int32))] [(.int (((p6.toUInt32 >>> ((10 : Int32) &&& 31).toUInt32).toInt32) &&& (3 : Int32)))]))
                  refine Gl.of (fun _ kq_ => XS.iconst X42.here hx rfl (hb hby at_292) kq_) ?_
                  show Gl p e below _ (T42.setTop (mkF m 293 #[.val (.int p1), .val (.int p2), .val (.int p3), .val (.int p4), .val (.int p5), .val (.int p6), .val (.int l1), .val (.int l2), .val (.int f2), .val (.int g3), .val (.int g4), .val (.int y0), .val (.int y1), .val (.int y2), .val (.ref x8_), .val (.ref x9_), .val (.ref b11), .val (.ref b18), .val (.int (0 : Int32)), .val (.int (((p6.toUInt32 >>> ((10 : Int32) &&& 31).toUInt32).toInt32) &&& (3 : Int32))), .val (.ref x8_), .val (.int (0 : Int32)), .val (.int (0 : Int32))] [(.int (2 : Int32)), (.int (((p6.toUInt32 >>> ((10 : Int32) &&& 31).toUInt32).toInt32) &&& (3 : Int32)))]))
                  refine Gl.of (fun _ kq_ => XS.icmpYes X42.here hx rfl (pc0 := 293) (pc' := 310) rfl (hb hby at_293) rfl (flt (by rw [hc240_41]; decide : ¬ ((((p6.toUInt32 >>> ((10 : Int32) &&& 31).toUInt32).toInt32) &&& (3 : Int32)) < (2 : Int32)))).2.1 (by decide) (by decide) kq_) ?_
                  show Gl p e below _ (T42.setTop (mkF m 310 #[.val (.int p1), .val (.int p2), .val (.int p3), .val (.int p4), .val (.int p5), .val (.int p6), .val (.int l1), .val (.int l2), .val (.int f2), .val (.int g3), .val (.int g4), .val (.int y0), .val (.int y1), .val (.int y2), .val (.ref x8_), .val (.ref x9_), .val (.ref b11), .val (.ref b18), .val (.int (0 : Int32)), .val (.int (((p6.toUInt32 >>> ((10 : Int32) &&& 31).toUInt32).toInt32) &&& (3 : Int32))), .val (.ref x8_), .val (.int (0 : Int32)), .val (.int (0 : Int32))] []))
                  refine Gl.of (fun _ kq_ => XS.aload X42.here hx rfl (hb hby at_310) rfl rfl kq_) ?_
                  show Gl p e below _ (T42.setTop (mkF m 312 #[.val (.int p1), .val (.int p2), .val (.int p3), .val (.int p4), .val (.int p5), .val (.int p6), .val (.int l1), .val (.int l2), .val (.int f2), .val (.int g3), .val (.int g4), .val (.int y0), .val (.int y1), .val (.int y2), .val (.ref x8_), .val (.ref x9_), .val (.ref b11), .val (.ref b18), .val (.int (0 : Int32)), .val (.int (((p6.toUInt32 >>> ((10 : Int32) &&& 31).toUInt32).toInt32) &&& (3 : Int32))), .val (.ref x8_), .val (.int (0 : Int32)), .val (.int (0 : Int32))] [(.ref b11)]))
                  refine Gl.of (fun _ kq_ => XS.aload X42.here hx rfl (hb hby at_312) rfl rfl kq_) ?_
                  show Gl p e below _ (T42.setTop (mkF m 314 #[.val (.int p1), .val (.int p2), .val (.int p3), .val (.int p4), .val (.int p5), .val (.int p6), .val (.int l1), .val (.int l2), .val (.int f2), .val (.int g3), .val (.int g4), .val (.int y0), .val (.int y1), .val (.int y2), .val (.ref x8_), .val (.ref x9_), .val (.ref b11), .val (.ref b18), .val (.int (0 : Int32)), .val (.int (((p6.toUInt32 >>> ((10 : Int32) &&& 31).toUInt32).toInt32) &&& (3 : Int32))), .val (.ref x8_), .val (.int (0 : Int32)), .val (.int (0 : Int32))] [(.ref b11), (.ref b11)]))
                  refine Gl.callV0 X42 hx hZ (y := (⟨"com/example/schenley/schenley/Identifier", "equals", "(Ljava/lang/Object;)Z"⟩ : MethodName)) (z := (⟨"com/example/schenley/schenley/Identifier", "equals", "(Ljava/lang/Object;)Z"⟩ : MethodName)) hown (w105 hw) (w106 hw) (notFace_of_selects (args := #[]) (mvT hZ (w108 hw))) (w108 hw) (w107 hw) (w109 hw) (w43 hw) (desc_ne (by decide)) (b := b11) (argsL := [(.ref b11)]) (rest := []) ec26 (rmQ1 l Z a0 hw _ b11 b11 x8_ x8_ t8_ t8_ kb8 kb8 (own_sp l1 f2 g3 g4) (own_sp l1 f2 g3 g4) cz ec26 fc27 fc27 gc24 gc24 (SC.ext O23.2) hcz rfl) 0 (by decide) (by decide) e42 (pc := 314) (Ls := #[.val (.int p1), .val (.int p2), .val (.int p3), .val (.int p4), .val (.int p5), .val (.int p6), .val (.int l1), .val (.int l2), .val (.int f2), .val (.int g3), .val (.int g4), .val (.int y0), .val (.int y1), .val (.int y2), .val (.ref x8_), .val (.ref x9_), .val (.ref b11), .val (.ref b18), .val (.int (0 : Int32)), .val (.int (((p6.toUInt32 >>> ((10 : Int32) &&& 31).toUInt32).toInt32) &&& (3 : Int32))), .val (.ref x8_), .val (.int (0 : Int32)), .val (.int (0 : Int32))]) (st := [(.ref b11), (.ref b11)]) (by rw [hml]; rfl) pd_7 rfl rfl (Nat.le_of_eq rfl) (hb hby at_314) (by decide) (by decide) ?_
                  intro v43 T43 X43 e43 hv43
                  subst hv43
                  show Gl p e below _ (T43.setTop (mkF m 317 #[.val (.int p1), .val (.int p2), .val (.int p3), .val (.int p4), .val (.int p5), .val (.int p6), .val (.int l1), .val (.int l2), .val (.int f2), .val (.int g3), .val (.int g4), .val (.int y0), .val (.int y1), .val (.int y2), .val (.ref x8_), .val (.ref x9_), .val (.ref b11), .val (.ref b18), .val (.int (0 : Int32)), .val (.int (((p6.toUInt32 >>> ((10 : Int32) &&& 31).toUInt32).toInt32) &&& (3 : Int32))), .val (.ref x8_), .val (.int (0 : Int32)), .val (.int (0 : Int32))] [(.int (1 : Int32))]))
                  exact Gl.retNW X43 hx hlk hret (by simp) (hb hby at_317) e43 (⟨rfl, N23⟩) hS23 (Nat.le_refl _) (by decide) (by decide)
                · refine Gl.of (fun _ kq_ => XS.icmpYes X23.here hx rfl (pc0 := 240) (pc' := 250) rfl (hb hby at_240) rfl (feq hc240_41).2 (by decide) (by decide) kq_) ?_
                  show Gl p e below _ (T23.setTop (mkF m 250 #[.val (.int p1), .val (.int p2), .val (.int p3), .val (.int p4), .val (.int p5), .val (.int p6), .val (.int l1), .val (.int l2), .val (.int f2), .val (.int g3), .val (.int g4), .val (.int y0), .val (.int y1), .val (.int y2), .val (.ref x8_), .val (.ref x9_), .val (.ref b11), .val (.ref b18), .val (.int (0 : Int32)), .val (.int (((p6.toUInt32 >>> ((10 : Int32) &&& 31).toUInt32).toInt32) &&& (3 : Int32))), .unset, .unset, .unset] []))
                  refine Gl.of (fun _ kq_ => XS.aload X23.here hx rfl (hb hby at_250) rfl rfl kq_) ?_
                  show Gl p e below _ (T23.setTop (mkF m 252 #[.val (.int p1), .val (.int p2), .val (.int p3), .val (.int p4), .val (.int p5), .val (.int p6), .val (.int l1), .val (.int l2), .val (.int f2), .val (.int g3), .val (.int g4), .val (.int y0), .val (.int y1), .val (.int y2), .val (.ref x8_), .val (.ref x9_), .val (.ref b11), .val (.ref b18), .val (.int (0 : Int32)), .val (.int (((p6.toUInt32 >>> ((10 : Int32) &&& 31).toUInt32).toInt32) &&& (3 : Int32))), .unset, .unset, .unset] [(.ref b18)]))
                  refine Gl.of (fun _ kq_ => XS.astore X23.here hx rfl (hb hby at_252) rfl rfl (l' := #[.val (.int p1), .val (.int p2), .val (.int p3), .val (.int p4), .val (.int p5), .val (.int p6), .val (.int l1), .val (.int l2), .val (.int f2), .val (.int g3), .val (.int g4), .val (.int y0), .val (.int y1), .val (.int y2), .val (.ref x8_), .val (.ref x9_), .val (.ref b11), .val (.ref b18), .val (.int (0 : Int32)), .val (.int (((p6.toUInt32 >>> ((10 : Int32) &&& 31).toUInt32).toInt32) &&& (3 : Int32))), .val (.ref b18), .unset, .unset]) rfl kq_) ?_
                  show Gl p e below _ (T23.setTop (mkF m 254 #[.val (.int p1), .val (.int p2), .val (.int p3), .val (.int p4), .val (.int p5), .val (.int p6), .val (.int l1), .val (.int l2), .val (.int f2), .val (.int g3), .val (.int g4), .val (.int y0), .val (.int y1), .val (.int y2), .val (.ref x8_), .val (.ref x9_), .val (.ref b11), .val (.ref b18), .val (.int (0 : Int32)), .val (.int (((p6.toUInt32 >>> ((10 : Int32) &&& 31).toUInt32).toInt32) &&& (3 : Int32))), .val (.ref b18), .unset, .unset] []))
                  refine Gl.of (fun _ kq_ => XS.iload X23.here hx rfl (hb hby at_254) rfl kq_) ?_
                  show Gl p e below _ (T23.setTop (mkF m 256 #[.val (.int p1), .val (.int p2), .val (.int p3), .val (.int p4), .val (.int p5), .val (.int p6), .val (.int l1), .val (.int l2), .val (.int f2), .val (.int g3), .val (.int g4), .val (.int y0), .val (.int y1), .val (.int y2), .val (.ref x8_), .val (.ref x9_), .val (.ref b11), .val (.ref b18), .val (.int (0 : Int32)), .val (.int (((p6.toUInt32 >>> ((10 : Int32) &&& 31).toUInt32).toInt32) &&& (3 : Int32))), .val (.ref b18), .unset, .unset] [(.int (((p6.toUInt32 >>> ((10 : Int32) &&& 31).toUInt32).toInt32) &&& (3 : Int32)))]))
                  refine Gl.of (fun _ kq_ => XS.iconst X23.here hx rfl (hb hby at_256) kq_) ?_
                  show Gl p e below _ (T23.setTop (mkF m 257 #[.val (.int p1), .val (.int p2), .val (.int p3), .val (.int p4), .val (.int p5), .val (.int p6), .val (.int l1), .val (.int l2), .val (.int f2), .val (.int g3), .val (.int g4), .val (.int y0), .val (.int y1), .val (.int y2), .val (.ref x8_), .val (.ref x9_), .val (.ref b11), .val (.ref b18), .val (.int (0 : Int32)), .val (.int (((p6.toUInt32 >>> ((10 : Int32) &&& 31).toUInt32).toInt32) &&& (3 : Int32))), .val (.ref b18), .unset, .unset] [(.int (2 : Int32)), (.int (((p6.toUInt32 >>> ((10 : Int32) &&& 31).toUInt32).toInt32) &&& (3 : Int32)))]))
                  refine Gl.of (fun _ kq_ => XS.icmpNo X23.here hx rfl (hb hby at_257) rfl (tlt (own_k _ hc228_38 hc240_41 : (((p6.toUInt32 >>> ((10 : Int32) &&& 31).toUInt32).toInt32) &&& (3 : Int32)) < (2 : Int32))).2.1 kq_) ?_
                  show Gl p e below _ (T23.setTop (mkF m 260 #[.val (.int p1), .val (.int p2), .val (.int p3), .val (.int p4), .val (.int p5), .val (.int p6), .val (.int l1), .val (.int l2), .val (.int f2), .val (.int g3), .val (.int g4), .val (.int y0), .val (.int y1), .val (.int y2), .val (.ref x8_), .val (.ref x9_), .val (.ref b11), .val (.ref b18), .val (.int (0 : Int32)), .val (.int (((p6.toUInt32 >>> ((10 : Int32) &&& 31).toUInt32).toInt32) &&& (3 : Int32))), .val (.ref b18), .unset, .unset] []))
                  refine Gl.of (fun _ kq_ => XS.iload X23.here hx rfl (hb hby at_260) rfl kq_) ?_
                  show Gl p e below _ (T23.setTop (mkF m 262 #[.val (.int p1), .val (.int p2), .val (.int p3), .val (.int p4), .val (.int p5), .val (.int p6), .val (.int l1), .val (.int l2), .val (.int f2), .val (.int g3), .val (.int g4), .val (.int y0), .val (.int y1), .val (.int y2), .val (.ref x8_), .val (.ref x9_), .val (.ref b11), .val (.ref b18), .val (.int (0 : Int32)), .val (.int (((p6.toUInt32 >>> ((10 : Int32) &&& 31).toUInt32).toInt32) &&& (3 : Int32))), .val (.ref b18), .unset, .unset] [(.int (0 : Int32))]))
                  refine Gl.of (fun _ kq_ => XS.ifYes X23.here hx rfl (pc0 := 262) (pc' := 269) rfl (hb hby at_262) rfl ((if0 _ _).trans (teq (by decide : (0 : Int32) = (0 : Int32))).1) (by decide) (by decide) kq_) ?_
                  show Gl p e below _ (T23.setTop (mkF m 269 #[.val (.int p1), .val (.int p2), .val (.int p3), .val (.int p4), .val (.int p5), .val (.int p6), .val (.int l1), .val (.int l2), .val (.int f2), .val (.int g3), .val (.int g4), .val (.int y0), .val (.int y1), .val (.int y2), .val (.ref x8_), .val (.ref x9_), .val (.ref b11), .val (.ref b18), .val (.int (0 : Int32)), .val (.int (((p6.toUInt32 >>> ((10 : Int32) &&& 31).toUInt32).toInt32) &&& (3 : Int32))), .val (.ref b18), .unset, .unset] []))
                  refine Gl.of (fun _ kq_ => XS.iconst X23.here hx rfl (hb hby at_269) kq_) ?_
                  show Gl p e below _ (T23.setTop (mkF m 270 #[.val (.int p1), .val (.int p2), .val (.int p3), .val (.int p4), .val (.int p5), .val (.int p6), .val (.int l1), .val (.int l2), .val (.int f2), .val (.int g3), .val (.int g4), .val (.int y0), .val (.int y1), .val (.int y2), .val (.ref x8_), .val (.ref x9_), .val (.ref b11), .val (.ref b18), .val (.int (0 : Int32)), .val (.int (((p6.toUInt32 >>> ((10 : Int32) &&& 31).toUInt32).toInt32) &&& (3 : Int32))), .val (.ref b18), .unset, .unset] [(.int (0 : Int32))]))
                  refine Gl.of (fun _ kq_ => XS.istore X23.here hx rfl (hb hby at_270) rfl (l' := #[.val (.int p1), .val (.int p2), .val (.int p3), .val (.int p4), .val (.int p5), .val (.int p6), .val (.int l1), .val (.int l2), .val (.int f2), .val (.int g3), .val (.int g4), .val (.int y0), .val (.int y1), .val (.int y2), .val (.ref x8_), .val (.ref x9_), .val (.ref b11), .val (.ref b18), .val (.int (0 : Int32)), .val (.int (((p6.toUInt32 >>> ((10 : Int32) &&& 31).toUInt32).toInt32) &&& (3 : Int32))), .val (.ref b18), .val (.int (0 : Int32)), .unset]) rfl kq_) ?_
                  show Gl p e below _ (T23.setTop (mkF m 272 #[.val (.int p1), .val (.int p2), .val (.int p3), .val (.int p4), .val (.int p5), .val (.int p6), .val (.int l1), .val (.int l2), .val (.int f2), .val (.int g3), .val (.int g4), .val (.int y0), .val (.int y1), .val (.int y2), .val (.ref x8_), .val (.ref x9_), .val (.ref b11), .val (.ref b18), .val (.int (0 : Int32)), .val (.int (((p6.toUInt32 >>> ((10 : Int32) &&& 31).toUInt32).toInt32) &&& (3 : Int32))), .val (.ref b18), .val (.int (0 : Int32)), .unset] []))
                  refine Gl.of (fun _ kq_ => XS.aload X23.here hx rfl (hb hby at_272) rfl rfl kq_) ?_
                  show Gl p e below _ (T23.setTop (mkF m 274 #[.val (.int p1), .val (.int p2), .val (.int p3), .val (.int p4), .val (.int p5), .val (.int p6), .val (.int l1), .val (.int l2), .val (.int f2), .val (.int g3), .val (.int g4), .val (.int y0), .val (.int y1), .val (.int y2), .val (.ref x8_), .val (.ref x9_), .val (.ref b11), .val (.ref b18), .val (.int (0 : Int32)), .val (.int (((p6.toUInt32 >>> ((10 : Int32) &&& 31).toUInt32).toInt32) &&& (3 : Int32))), .val (.ref b18), .val (.int (0 : Int32)), .unset] [(.ref b11)]))
                  refine Gl.of (fun _ kq_ => XS.aload X23.here hx rfl (hb hby at_274) rfl rfl kq_) ?_
                  show Gl p e below _ (T23.setTop (mkF m 276 #[.val (.int p1), .val (.int p2), .val (.int p3), .val (.int p4), .val (.int p5), .val (.int p6), .val (.int l1), .val (.int l2), .val (.int f2), .val (.int g3), .val (.int g4), .val (.int y0), .val (.int y1), .val (.int y2), .val (.ref x8_), .val (.ref x9_), .val (.ref b11), .val (.ref b18), .val (.int (0 : Int32)), .val (.int (((p6.toUInt32 >>> ((10 : Int32) &&& 31).toUInt32).toInt32) &&& (3 : Int32))), .val (.ref b18), .val (.int (0 : Int32)), .unset] [(.ref b18), (.ref b11)]))
                  refine Gl.callV0 X23 hx hZ (y := (⟨"com/example/schenley/schenley/Identifier", "equals", "(Ljava/lang/Object;)Z"⟩ : MethodName)) (z := (⟨"com/example/schenley/schenley/Identifier", "equals", "(Ljava/lang/Object;)Z"⟩ : MethodName)) hown (w105 hw) (w106 hw) (notFace_of_selects (args := #[]) (mvT hZ (w108 hw))) (w108 hw) (w107 hw) (w109 hw) (w43 hw) (desc_ne (by decide)) (b := b11) (argsL := [(.ref b18)]) (rest := []) ec26 (rmQ0 l Z a0 hw _ b11 b18 x8_ x9_ t8_ t9_ kb8 kb9 (own_sp l1 f2 g3 g4) (own_sp l2 y0 y1 y2) cz ec28 fc27 F23a gc24 gc25 (SC.ext O23.2) hcz hsm) 0 (by decide) (by decide) rfl (pc := 276) (Ls := #[.val (.int p1), .val (.int p2), .val (.int p3), .val (.int p4), .val (.int p5), .val (.int p6), .val (.int l1), .val (.int l2), .val (.int f2), .val (.int g3), .val (.int g4), .val (.int y0), .val (.int y1), .val (.int y2), .val (.ref x8_), .val (.ref x9_), .val (.ref b11), .val (.ref b18), .val (.int (0 : Int32)), .val (.int (((p6.toUInt32 >>> ((10 : Int32) &&& 31).toUInt32).toInt32) &&& (3 : Int32))), .val (.ref b18), .val (.int (0 : Int32)), .unset]) (st := [(.ref b18), (.ref b11)]) (by rw [hml]; rfl) pd_7 rfl rfl (Nat.le_of_eq rfl) (hb hby at_276) (by decide) (by decide) ?_
                  intro v44 T44 X44 e44 hv44
                  subst hv44
                  show Gl p e below _ (T44.setTop (mkF m 279 #[.val (.int p1), .val (.int p2), .val (.int p3), .val (.int p4), .val (.int p5), .val (.int p6), .val (.int l1), .val (.int l2), .val (.int f2), .val (.int g3), .val (.int g4), .val (.int y0), .val (.int y1), .val (.int y2), .val (.ref x8_), .val (.ref x9_), .val (.ref b11), .val (.ref b18), .val (.int (0 : Int32)), .val (.int (((p6.toUInt32 >>> ((10 : Int32) &&& 31).toUInt32).toInt32) &&& (3 : Int32))), .val (.ref b18), .val (.int (0 : Int32)), .unset] [(.int (0 : Int32))]))
                  refine Gl.of (fun _ kq_ => XS.istore X44.here hx rfl (hb hby at_279) rfl (l' := #[.val (.int p1), .val (.int p2), .val (.int p3), .val (.int p4), .val (.int p5), .val (.int p6), .val (.int l1), .val (.int l2), .val (.int f2), .val (.int g3), .val (.int g4), .val (.int y0), .val (.int y1), .val (.int y2), .val (.ref x8_), .val (.ref x9_), .val (.ref b11), .val (.ref b18), .val (.int (0 : Int32)), .val (.int (((p6.toUInt32 >>> ((10 : Int32) &&& 31).toUInt32).toInt32) &&& (3 : Int32))), .val (.ref b18), .val (.int (0 : Int32)), .val (.int (0 : Int32))]) rfl kq_) ?_
                  show Gl p e below _ (T44.setTop (mkF m 281 #[.val (.int p1), .val (.int p2), .val (.int p3), .val (.int p4), .val (.int p5), .val (.int p6), .val (.int l1), .val (.int l2), .val (.int f2), .val (.int g3), .val (.int g4), .val (.int y0), .val (.int y1), .val (.int y2), .val (.ref x8_), .val (.ref x9_), .val (.ref b11), .val (.ref b18), .val (.int (0 : Int32)), .val (.int (((p6.toUInt32 >>> ((10 : Int32) &&& 31).toUInt32).toInt32) &&& (3 : Int32))), .val (.ref b18), .val (.int (0 : Int32)), .val (.int (0 : Int32))] []))
                  refine Gl.of (fun _ kq_ => XS.iload X44.here hx rfl (hb hby at_281) rfl kq_) ?_
                  show Gl p e below _ (T44.setTop (mkF m 283 #[.val (.int p1), .val (.int p2), .val (.int p3), .val (.int p4), .val (.int p5), .val (.int p6), .val (.int l1), .val (.int l2), .val (.int f2), .val (.int g3), .val (.int g4), .val (.int y0), .val (.int y1), .val (.int y2), .val (.ref x8_), .val (.ref x9_), .val (.ref b11), .val (.ref b18), .val (.int (0 : Int32)), .val (.int (((p6.toUInt32 >>> ((10 : Int32) &&& 31).toUInt32).toInt32) &&& (3 : Int32))), .val (.ref b18), .val (.int (0 : Int32)), .val (.int (0 : Int32))] [(.int (0 : Int32))]))
                  refine Gl.of (fun _ kq_ => XS.iload X44.here hx rfl (hb hby at_283) rfl kq_) ?_
                  show Gl p e below _ (T44.setTop (mkF m 285 #[.val (.int p1), .val (.int p2), .val (.int p3), .val (.int p4), .val (.int p5), .val (.int p6), .val (.int l1), .val (.int l2), .val (.int f2), .val (.int g3), .val (.int g4), .val (.int y0), .val (.int y1), .val (.int y2), .val (.ref x8_), .val (.ref x9_), .val (.ref b11), .val (.ref b18), .val (.int (0 : Int32)), .val (.int (((p6.toUInt32 >>> ((10 : Int32) &&& 31).toUInt32).toInt32) &&& (3 : Int32))), .val (.ref b18), .val (.int (0 : Int32)), .val (.int (0 : Int32))] [(.int (0 : Int32)), (.int (0 : Int32))]))
                  refine Gl.of (fun _ kq_ => XS.icmpYes X44.here hx rfl (pc0 := 285) (pc' := 290) rfl (hb hby at_285) rfl (teq (by decide : (0 : Int32) = (0 : Int32))).1 (by decide) (by decide) kq_) ?_
                  show Gl p e below _ (T44.setTop (mkF m 290 #[.val (.int p1), .val (.int p2), .val (.int p3), .val (.int p4), .val (.int p5), .val (.int p6), .val (.int l1), .val (.int l2), .val (.int f2), .val (.int g3), .val (.int g4), .val (.int y0), .val (.int y1), .val (.int y2), .val (.ref x8_), .val (.ref x9_), .val (.ref b11), .val (.ref b18), .val (.int (0 : Int32)), .val (.int (((p6.toUInt32 >>> ((10 : Int32) &&& 31).toUInt32).toInt32) &&& (3 : Int32))), .val (.ref b18), .val (.int (0 : Int32)), .val (.int (0 : Int32))] []))
                  refine Gl.of (fun _ kq_ => XS.iload X44.here hx rfl (hb hby at_290) rfl kq_) ?_
                  show Gl p e below _ (T44.setTop (mkF m 292 #[.val (.int p1), .val (.int p2), .val (.int p3), .val (.int p4), .val (.int p5), .val (.int p6), .val (.int l1), .val (.int l2), .val (.int f2), .val (.int g3), .val (.int g4), .val (.int y0), .val (.int y1), .val (.int y2), .val (.ref x8_), .val (.ref x9_), .val (.ref b11), .val (.ref b18), .val (.int (0 : Int32)), .val (.int (((p6.toUInt32 >>> ((10 : Int32) &&& 31).toUInt32).toInt32) &&& (3 : Int32))), .val (.ref b18), .val (.int (0 : Int32)), .val (.int (0 : Int32))] [(.int (((p6.toUInt32 >>> ((10 : Int32) &&& 31).toUInt32).toInt32) &&& (3 : Int32)))]))
                  refine Gl.of (fun _ kq_ => XS.iconst X44.here hx rfl (hb hby at_292) kq_) ?_
                  show Gl p e below _ (T44.setTop (mkF m 293 #[.val (.int p1), .val (.int p2), .val (.int p3), .val (.int p4), .val (.int p5), .val (.int p6), .val (.int l1), .val (.int l2), .val (.int f2), .val (.int g3), .val (.int g4), .val (.int y0), .val (.int y1), .val (.int y2), .val (.ref x8_), .val (.ref x9_), .val (.ref b11), .val (.ref b18), .val (.int (0 : Int32)), .val (.int (((p6.toUInt32 >>> ((10 : Int32) &&& 31).toUInt32).toInt32) &&& (3 : Int32))), .val (.ref b18), .val (.int (0 : Int32)), .val (.int (0 : Int32))] [(.int (2 : Int32)), (.int (((p6.toUInt32 >>> ((10 : Int32) &&& 31).toUInt32).toInt32) &&& (3 : Int32)))]))
                  refine Gl.of (fun _ kq_ => XS.icmpNo X44.here hx rfl (hb hby at_293) rfl (tlt (own_k _ hc228_38 hc240_41 : (((p6.toUInt32 >>> ((10 : Int32) &&& 31).toUInt32).toInt32) &&& (3 : Int32)) < (2 : Int32))).2.1 kq_) ?_
                  show Gl p e below _ (T44.setTop (mkF m 296 #[.val (.int p1), .val (.int p2), .val (.int p3), .val (.int p4), .val (.int p5), .val (.int p6), .val (.int l1), .val (.int l2), .val (.int f2), .val (.int g3), .val (.int g4), .val (.int y0), .val (.int y1), .val (.int y2), .val (.ref x8_), .val (.ref x9_), .val (.ref b11), .val (.ref b18), .val (.int (0 : Int32)), .val (.int (((p6.toUInt32 >>> ((10 : Int32) &&& 31).toUInt32).toInt32) &&& (3 : Int32))), .val (.ref b18), .val (.int (0 : Int32)), .val (.int (0 : Int32))] []))
                  refine Gl.of (fun _ kq_ => XS.aload X44.here hx rfl (hb hby at_296) rfl rfl kq_) ?_
                  show Gl p e below _ (T44.setTop (mkF m 298 #[.val (.int p1), .val (.int p2), .val (.int p3), .val (.int p4), .val (.int p5), .val (.int p6), .val (.int l1), .val (.int l2), .val (.int f2), .val (.int g3), .val (.int g4), .val (.int y0), .val (.int y1), .val (.int y2), .val (.ref x8_), .val (.ref x9_), .val (.ref b11), .val (.ref b18), .val (.int (0 : Int32)), .val (.int (((p6.toUInt32 >>> ((10 : Int32) &&& 31).toUInt32).toInt32) &&& (3 : Int32))), .val (.ref b18), .val (.int (0 : Int32)), .val (.int (0 : Int32))] [(.ref b18)]))
                  refine Gl.of (fun _ kq_ => XS.aload X44.here hx rfl (hb hby at_298) rfl rfl kq_) ?_
                  show Gl p e below _ (T44.setTop (mkF m 300 #[.val (.int p1), .val (.int p2), .val (.int p3), .val (.int p4), .val (.int p5), .val (.int p6), .val (.int l1), .val (.int l2), .val (.int f2), .val (.int g3), .val (.int g4), .val (.int y0), .val (.int y1), .val (.int y2), .val (.ref x8_), .val (.ref x9_), .val (.ref b11), .val (.ref b18), .val (.int (0 : Int32)), .val (.int (((p6.toUInt32 >>> ((10 : Int32) &&& 31).toUInt32).toInt32) &&& (3 : Int32))), .val (.ref b18), .val (.int (0 : Int32)), .val (.int (0 : Int32))] [(.ref b11), (.ref b18)]))
                  refine Gl.callV0 X44 hx hZ (y := (⟨"com/example/schenley/schenley/Identifier", "equals", "(Ljava/lang/Object;)Z"⟩ : MethodName)) (z := (⟨"com/example/schenley/schenley/Identifier", "equals", "(Ljava/lang/Object;)Z"⟩ : MethodName)) hown (w105 hw) (w106 hw) (notFace_of_selects (args := #[]) (mvT hZ (w108 hw))) (w108 hw) (w107 hw) (w109 hw) (w43 hw) (desc_ne (by decide)) (b := b18) (argsL := [(.ref b11)]) (rest := []) ec28 (rmQ0 l Z a0 hw _ b18 b11 x9_ x8_ t9_ t8_ kb9 kb8 (own_sp l2 y0 y1 y2) (own_sp l1 f2 g3 g4) cz ec26 F23a fc27 gc25 gc24 (SC.ext O23.2) hcz (fun q => hsm q.symm)) 0 (by decide) (by decide) e44 (pc := 300) (Ls := #[.val (.int p1), .val (.int p2), .val (.int p3), .val (.int p4), .val (.int p5), .val (.int p6), .val (.int l1), .val (.int l2), .val (.int f2), .val (.int g3), .val (.int g4), .val (.int y0), .val (.int y1), .val (.int y2), .val (.ref x8_), .val (.ref x9_), .val (.ref b11), .val (.ref b18), .val (.int (0 : Int32)), .val (.int (((p6.toUInt32 >>> ((10 : Int32) &&& 31).toUInt32).toInt32) &&& (3 : Int32))), .val (.ref b18), .val (.int (0 : Int32)), .val (.int (0 : Int32))]) (st := [(.ref b11), (.ref b18)]) (by rw [hml]; rfl) pd_7 rfl rfl (Nat.le_of_eq rfl) (hb hby at_300) (by decide) (by decide) ?_
                  intro v45 T45 X45 e45 hv45
                  subst hv45
                  show Gl p e below _ (T45.setTop (mkF m 303 #[.val (.int p1), .val (.int p2), .val (.int p3), .val (.int p4), .val (.int p5), .val (.int p6), .val (.int l1), .val (.int l2), .val (.int f2), .val (.int g3), .val (.int g4), .val (.int y0), .val (.int y1), .val (.int y2), .val (.ref x8_), .val (.ref x9_), .val (.ref b11), .val (.ref b18), .val (.int (0 : Int32)), .val (.int (((p6.toUInt32 >>> ((10 : Int32) &&& 31).toUInt32).toInt32) &&& (3 : Int32))), .val (.ref b18), .val (.int (0 : Int32)), .val (.int (0 : Int32))] [(.int (0 : Int32))]))
                  refine Gl.of (fun _ kq_ => XS.iload X45.here hx rfl (hb hby at_303) rfl kq_) ?_
                  show Gl p e below _ (T45.setTop (mkF m 305 #[.val (.int p1), .val (.int p2), .val (.int p3), .val (.int p4), .val (.int p5), .val (.int p6), .val (.int l1), .val (.int l2), .val (.int f2), .val (.int g3), .val (.int g4), .val (.int y0), .val (.int y1), .val (.int y2), .val (.ref x8_), .val (.ref x9_), .val (.ref b11), .val (.ref b18), .val (.int (0 : Int32)), .val (.int (((p6.toUInt32 >>> ((10 : Int32) &&& 31).toUInt32).toInt32) &&& (3 : Int32))), .val (.ref b18), .val (.int (0 : Int32)), .val (.int (0 : Int32))] [(.int (0 : Int32)), (.int (0 : Int32))]))
                  refine Gl.of (fun _ kq_ => XS.icmpYes X45.here hx rfl (pc0 := 305) (pc' := 310) rfl (hb hby at_305) rfl (teq (by decide : (0 : Int32) = (0 : Int32))).1 (by decide) (by decide) kq_) ?_
                  show Gl p e below _ (T45.setTop (mkF m 310 #[.val (.int p1), .val (.int p2), .val (.int p3), .val (.int p4), .val (.int p5), .val (.int p6), .val (.int l1), .val (.int l2), .val (.int f2), .val (.int g3), .val (.int g4), .val (.int y0), .val (.int y1), .val (.int y2), .val (.ref x8_), .val (.ref x9_), .val (.ref b11), .val (.ref b18), .val (.int (0 : Int32)), .val (.int (((p6.toUInt32 >>> ((10 : Int32) &&& 31).toUInt32).toInt32) &&& (3 : Int32))), .val (.ref b18), .val (.int (0 : Int32)), .val (.int (0 : Int32))] []))
                  refine Gl.of (fun _ kq_ => XS.aload X45.here hx rfl (hb hby at_310) rfl rfl kq_) ?_
                  show Gl p e below _ (T45.setTop (mkF m 312 #[.val (.int p1), .val (.int p2), .val (.int p3), .val (.int p4), .val (.int p5), .val (.int p6), .val (.int l1), .val (.int l2), .val (.int f2), .val (.int g3), .val (.int g4), .val (.int y0), .val (.int y1), .val (.int y2), .val (.ref x8_), .val (.ref x9_), .val (.ref b11), .val (.ref b18), .val (.int (0 : Int32)), .val (.int (((p6.toUInt32 >>> ((10 : Int32) &&& 31).toUInt32).toInt32) &&& (3 : Int32))), .val (.ref b18), .val (.int (0 : Int32)), .val (.int (0 : Int32))] [(.ref b11)]))
                  refine Gl.of (fun _ kq_ => XS.aload X45.here hx rfl (hb hby at_312) rfl rfl kq_) ?_
                  show Gl p e below _ (T45.setTop (mkF m 314 #[.val (.int p1), .val (.int p2), .val (.int p3), .val (.int p4), .val (.int p5), .val (.int p6), .val (.int l1), .val (.int l2), .val (.int f2), .val (.int g3), .val (.int g4), .val (.int y0), .val (.int y1), .val (.int y2), .val (.ref x8_), .val (.ref x9_), .val (.ref b11), .val (.ref b18), .val (.int (0 : Int32)), .val (.int (((p6.toUInt32 >>> ((10 : Int32) &&& 31).toUInt32).toInt32) &&& (3 : Int32))), .val (.ref b18), .val (.int (0 : Int32)), .val (.int (0 : Int32))] [(.ref b11), (.ref b11)]))
                  refine Gl.callV0 X45 hx hZ (y := (⟨"com/example/schenley/schenley/Identifier", "equals", "(Ljava/lang/Object;)Z"⟩ : MethodName)) (z := (⟨"com/example/schenley/schenley/Identifier", "equals", "(Ljava/lang/Object;)Z"⟩ : MethodName)) hown (w105 hw) (w106 hw) (notFace_of_selects (args := #[]) (mvT hZ (w108 hw))) (w108 hw) (w107 hw) (w109 hw) (w43 hw) (desc_ne (by decide)) (b := b11) (argsL := [(.ref b11)]) (rest := []) ec26 (rmQ1 l Z a0 hw _ b11 b11 x8_ x8_ t8_ t8_ kb8 kb8 (own_sp l1 f2 g3 g4) (own_sp l1 f2 g3 g4) cz ec26 fc27 fc27 gc24 gc24 (SC.ext O23.2) hcz rfl) 0 (by decide) (by decide) e45 (pc := 314) (Ls := #[.val (.int p1), .val (.int p2), .val (.int p3), .val (.int p4), .val (.int p5), .val (.int p6), .val (.int l1), .val (.int l2), .val (.int f2), .val (.int g3), .val (.int g4), .val (.int y0), .val (.int y1), .val (.int y2), .val (.ref x8_), .val (.ref x9_), .val (.ref b11), .val (.ref b18), .val (.int (0 : Int32)), .val (.int (((p6.toUInt32 >>> ((10 : Int32) &&& 31).toUInt32).toInt32) &&& (3 : Int32))), .val (.ref b18), .val (.int (0 : Int32)), .val (.int (0 : Int32))]) (st := [(.ref b11), (.ref b11)]) (by rw [hml]; rfl) pd_7 rfl rfl (Nat.le_of_eq rfl) (hb hby at_314) (by decide) (by decide) ?_
                  intro v46 T46 X46 e46 hv46
                  subst hv46
                  show Gl p e below _ (T46.setTop (mkF m 317 #[.val (.int p1), .val (.int p2), .val (.int p3), .val (.int p4), .val (.int p5), .val (.int p6), .val (.int l1), .val (.int l2), .val (.int f2), .val (.int g3), .val (.int g4), .val (.int y0), .val (.int y1), .val (.int y2), .val (.ref x8_), .val (.ref x9_), .val (.ref b11), .val (.ref b18), .val (.int (0 : Int32)), .val (.int (((p6.toUInt32 >>> ((10 : Int32) &&& 31).toUInt32).toInt32) &&& (3 : Int32))), .val (.ref b18), .val (.int (0 : Int32)), .val (.int (0 : Int32))] [(.int (1 : Int32))]))
                  exact Gl.retNW X46 hx hlk hret (by simp) (hb hby at_317) e46 (⟨rfl, N23⟩) hS23 (Nat.le_refl _) (by decide) (by decide)
          show Gl p e below _ (T23.setTop (mkF m 169 #[.val (.int p1), .val (.int p2), .val (.int p3), .val (.int p4), .val (.int p5), .val (.int p6), .val (.int l1), .val (.int l2), .val (.int f2), .val (.int g3), .val (.int g4), .val (.int y0), .val (.int y1), .val (.int y2), .val (.ref x8_), .val (.ref x9_), .val (.ref b11), .val (.ref b18), .unset, .unset, .unset, .unset, .unset] []))
          refine Gl.of (fun _ kq_ => XS.iload X23.here hx rfl (hb hby at_169) rfl kq_) ?_
          show Gl p e below _ (T23.setTop (mkF m 171 #[.val (.int p1), .val (.int p2), .val (.int p3), .val (.int p4), .val (.int p5), .val (.int p6), .val (.int l1), .val (.int l2), .val (.int f2), .val (.int g3), .val (.int g4), .val (.int y0), .val (.int y1), .val (.int y2), .val (.ref x8_), .val (.ref x9_), .val (.ref b11), .val (.ref b18), .unset, .unset, .unset, .unset, .unset] [(.int l1)]))
          refine Gl.of (fun _ kq_ => XS.iload X23.here hx rfl (hb hby at_171) rfl kq_) ?_
          show Gl p e below _ (T23.setTop (mkF m 173 #[.val (.int p1), .val (.int p2), .val (.int p3), .val (.int p4), .val (.int p5), .val (.int p6), .val (.int l1), .val (.int l2), .val (.int f2), .val (.int g3), .val (.int g4), .val (.int y0), .val (.int y1), .val (.int y2), .val (.ref x8_), .val (.ref x9_), .val (.ref b11), .val (.ref b18), .unset, .unset, .unset, .unset, .unset] [(.int l2), (.int l1)]))
          by_cases hc173_47 : l1 = l2
          · refine Gl.of (fun _ kq_ => XS.icmpNo X23.here hx rfl (hb hby at_173) rfl (teq hc173_47).2 kq_) ?_
            show Gl p e below _ (T23.setTop (mkF m 176 #[.val (.int p1), .val (.int p2), .val (.int p3), .val (.int p4), .val (.int p5), .val (.int p6), .val (.int l1), .val (.int l2), .val (.int f2), .val (.int g3), .val (.int g4), .val (.int y0), .val (.int y1), .val (.int y2), .val (.ref x8_), .val (.ref x9_), .val (.ref b11), .val (.ref b18), .unset, .unset, .unset, .unset, .unset] []))
            refine Gl.of (fun _ kq_ => XS.iload X23.here hx rfl (hb hby at_176) rfl kq_) ?_
            show Gl p e below _ (T23.setTop (mkF m 178 #[.val (.int p1), .val (.int p2), .val (.int p3), .val (.int p4), .val (.int p5), .val (.int p6), .val (.int l1), .val (.int l2), .val (.int f2), .val (.int g3), .val (.int g4), .val (.int y0), .val (.int y1), .val (.int y2), .val (.ref x8_), .val (.ref x9_), .val (.ref b11), .val (.ref b18), .unset, .unset, .unset, .unset, .unset] [(.int f2)]))
            refine Gl.of (fun _ kq_ => XS.iload X23.here hx rfl (hb hby at_178) rfl kq_) ?_
            show Gl p e below _ (T23.setTop (mkF m 180 #[.val (.int p1), .val (.int p2), .val (.int p3), .val (.int p4), .val (.int p5), .val (.int p6), .val (.int l1), .val (.int l2), .val (.int f2), .val (.int g3), .val (.int g4), .val (.int y0), .val (.int y1), .val (.int y2), .val (.ref x8_), .val (.ref x9_), .val (.ref b11), .val (.ref b18), .unset, .unset, .unset, .unset, .unset] [(.int y0), (.int f2)]))
            by_cases hc180_48 : f2 = y0
            · refine Gl.of (fun _ kq_ => XS.icmpNo X23.here hx rfl (hb hby at_180) rfl (teq hc180_48).2 kq_) ?_
              show Gl p e below _ (T23.setTop (mkF m 183 #[.val (.int p1), .val (.int p2), .val (.int p3), .val (.int p4), .val (.int p5), .val (.int p6), .val (.int l1), .val (.int l2), .val (.int f2), .val (.int g3), .val (.int g4), .val (.int y0), .val (.int y1), .val (.int y2), .val (.ref x8_), .val (.ref x9_), .val (.ref b11), .val (.ref b18), .unset, .unset, .unset, .unset, .unset] []))
              refine Gl.of (fun _ kq_ => XS.iload X23.here hx rfl (hb hby at_183) rfl kq_) ?_
              show Gl p e below _ (T23.setTop (mkF m 185 #[.val (.int p1), .val (.int p2), .val (.int p3), .val (.int p4), .val (.int p5), .val (.int p6), .val (.int l1), .val (.int l2), .val (.int f2), .val (.int g3), .val (.int g4), .val (.int y0), .val (.int y1), .val (.int y2), .val (.ref x8_), .val (.ref x9_), .val (.ref b11), .val (.ref b18), .unset, .unset, .unset, .unset, .unset] [(.int l1)]))
              refine Gl.of (fun _ kq_ => XS.iconst X23.here hx rfl (hb hby at_185) kq_) ?_
              show Gl p e below _ (T23.setTop (mkF m 186 #[.val (.int p1), .val (.int p2), .val (.int p3), .val (.int p4), .val (.int p5), .val (.int p6), .val (.int l1), .val (.int l2), .val (.int f2), .val (.int g3), .val (.int g4), .val (.int y0), .val (.int y1), .val (.int y2), .val (.ref x8_), .val (.ref x9_), .val (.ref b11), .val (.ref b18), .unset, .unset, .unset, .unset, .unset] [(.int (2 : Int32)), (.int l1)]))
              by_cases hc186_49 : l1 < (2 : Int32)
              · refine Gl.of (fun _ kq_ => XS.icmpYes X23.here hx rfl (pc0 := 186) (pc' := 196) rfl (hb hby at_186) rfl (tlt hc186_49).1 (by decide) (by decide) kq_) ?_
                show Gl p e below _ (T23.setTop (mkF m 196 #[.val (.int p1), .val (.int p2), .val (.int p3), .val (.int p4), .val (.int p5), .val (.int p6), .val (.int l1), .val (.int l2), .val (.int f2), .val (.int g3), .val (.int g4), .val (.int y0), .val (.int y1), .val (.int y2), .val (.ref x8_), .val (.ref x9_), .val (.ref b11), .val (.ref b18), .unset, .unset, .unset, .unset, .unset] []))
                refine Gl.of (fun _ kq_ => XS.iload X23.here hx rfl (hb hby at_196) rfl kq_) ?_
                show Gl p e below _ (T23.setTop (mkF m 198 #[.val (.int p1), .val (.int p2), .val (.int p3), .val (.int p4), .val (.int p5), .val (.int p6), .val (.int l1), .val (.int l2), .val (.int f2), .val (.int g3), .val (.int g4), .val (.int y0), .val (.int y1), .val (.int y2), .val (.ref x8_), .val (.ref x9_), .val (.ref b11), .val (.ref b18), .unset, .unset, .unset, .unset, .unset] [(.int l1)]))
                refine Gl.of (fun _ kq_ => XS.iconst X23.here hx rfl (hb hby at_198) kq_) ?_
                show Gl p e below _ (T23.setTop (mkF m 199 #[.val (.int p1), .val (.int p2), .val (.int p3), .val (.int p4), .val (.int p5), .val (.int p6), .val (.int l1), .val (.int l2), .val (.int f2), .val (.int g3), .val (.int g4), .val (.int y0), .val (.int y1), .val (.int y2), .val (.ref x8_), .val (.ref x9_), .val (.ref b11), .val (.ref b18), .unset, .unset, .unset, .unset, .unset] [(.int (3 : Int32)), (.int l1)]))
                by_cases hc199_50 : l1 < (3 : Int32)
                · refine Gl.of (fun _ kq_ => XS.icmpYes X23.here hx rfl (pc0 := 199) (pc' := 209) rfl (hb hby at_199) rfl (tlt hc199_50).1 (by decide) (by decide) kq_) ?_
                  show Gl p e below _ (T23.setTop (mkF m 209 #[.val (.int p1), .val (.int p2), .val (.int p3), .val (.int p4), .val (.int p5), .val (.int p6), .val (.int l1), .val (.int l2), .val (.int f2), .val (.int g3), .val (.int g4), .val (.int y0), .val (.int y1), .val (.int y2), .val (.ref x8_), .val (.ref x9_), .val (.ref b11), .val (.ref b18), .unset, .unset, .unset, .unset, .unset] []))
                  refine Gl.of (fun _ kq_ => XS.iconst X23.here hx rfl (hb hby at_209) kq_) ?_
                  show Gl p e below _ (T23.setTop (mkF m 210 #[.val (.int p1), .val (.int p2), .val (.int p3), .val (.int p4), .val (.int p5), .val (.int p6), .val (.int l1), .val (.int l2), .val (.int f2), .val (.int g3), .val (.int g4), .val (.int y0), .val (.int y1), .val (.int y2), .val (.ref x8_), .val (.ref x9_), .val (.ref b11), .val (.ref b18), .unset, .unset, .unset, .unset, .unset] [(.int (1 : Int32))]))
                  refine Gl.of (fun _ kq_ => XS.goto X23.here hx rfl (pc0 := 210) (pc' := 214) rfl (hb hby at_210) (by decide) (by decide) kq_) ?_
                  show Gl p e below _ (T23.setTop (mkF m 214 #[.val (.int p1), .val (.int p2), .val (.int p3), .val (.int p4), .val (.int p5), .val (.int p6), .val (.int l1), .val (.int l2), .val (.int f2), .val (.int g3), .val (.int g4), .val (.int y0), .val (.int y1), .val (.int y2), .val (.ref x8_), .val (.ref x9_), .val (.ref b11), .val (.ref b18), .unset, .unset, .unset, .unset, .unset] [(.int (1 : Int32))]))
                  refine Gl.of (fun _ kq_ => XS.istore X23.here hx rfl (hb hby at_214) rfl (l' := #[.val (.int p1), .val (.int p2), .val (.int p3), .val (.int p4), .val (.int p5), .val (.int p6), .val (.int l1), .val (.int l2), .val (.int f2), .val (.int g3), .val (.int g4), .val (.int y0), .val (.int y1), .val (.int y2), .val (.ref x8_), .val (.ref x9_), .val (.ref b11), .val (.ref b18), .val (.int (1 : Int32)), .unset, .unset, .unset, .unset]) rfl kq_) ?_
                  show Gl p e below _ (T23.setTop (mkF m 216 #[.val (.int p1), .val (.int p2), .val (.int p3), .val (.int p4), .val (.int p5), .val (.int p6), .val (.int l1), .val (.int l2), .val (.int f2), .val (.int g3), .val (.int g4), .val (.int y0), .val (.int y1), .val (.int y2), .val (.ref x8_), .val (.ref x9_), .val (.ref b11), .val (.ref b18), .val (.int (1 : Int32)), .unset, .unset, .unset, .unset] []))
                  exact J216 _ (by unfold own_rel own_sp; rcases hl1 with rfl | rfl | rfl <;> rcases hl2 with rfl | rfl | rfl <;> simp_all)
                · refine Gl.of (fun _ kq_ => XS.icmpNo X23.here hx rfl (hb hby at_199) rfl (flt hc199_50).1 kq_) ?_
                  show Gl p e below _ (T23.setTop (mkF m 202 #[.val (.int p1), .val (.int p2), .val (.int p3), .val (.int p4), .val (.int p5), .val (.int p6), .val (.int l1), .val (.int l2), .val (.int f2), .val (.int g3), .val (.int g4), .val (.int y0), .val (.int y1), .val (.int y2), .val (.ref x8_), .val (.ref x9_), .val (.ref b11), .val (.ref b18), .unset, .unset, .unset, .unset, .unset] []))
                  refine Gl.of (fun _ kq_ => XS.iload X23.here hx rfl (hb hby at_202) rfl kq_) ?_
                  show Gl p e below _ (T23.setTop (mkF m 204 #[.val (.int p1), .val (.int p2), .val (.int p3), .val (.int p4), .val (.int p5), .val (.int p6), .val (.int l1), .val (.int l2), .val (.int f2), .val (.int g3), .val (.int g4), .val (.int y0), .val (.int y1), .val (.int y2), .val (.ref x8_), .val (.ref x9_), .val (.ref b11), .val (.ref b18), .unset, .unset, .unset, .unset, .unset] [(.int g4)]))
                  refine Gl.of (fun _ kq_ => XS.iload X23.here hx rfl (hb hby at_204) rfl kq_) ?_
                  show Gl p e below _ (T23.setTop (mkF m 206 #[.val (.int p1), .val (.int p2), .val (.int p3), .val (.int p4), .val (.int p5), .val (.int p6), .val (.int l1), .val (.int l2), .val (.int f2), .val (.int g3), .val (.int g4), .val (.int y0), .val (.int y1), .val (.int y2), .val (.ref x8_), .val (.ref x9_), .val (.ref b11), .val (.ref b18), .unset, .unset, .unset, .unset, .unset] [(.int y2), (.int g4)]))
                  by_cases hc206_51 : g4 = y2
                  · refine Gl.of (fun _ kq_ => XS.icmpNo X23.here hx rfl (hb hby at_206) rfl (teq hc206_51).2 kq_) ?_
                    show Gl p e below _ (T23.setTop (mkF m 209 #[.val (.int p1), .val (.int p2), .val (.int p3), .val (.int p4), .val (.int p5), .val (.int p6), .val (.int l1), .val (.int l2), .val (.int f2), .val (.int g3), .val (.int g4), .val (.int y0), .val (.int y1), .val (.int y2), .val (.ref x8_), .val (.ref x9_), .val (.ref b11), .val (.ref b18), .unset, .unset, .unset, .unset, .unset] []))
                    refine Gl.of (fun _ kq_ => XS.iconst X23.here hx rfl (hb hby at_209) kq_) ?_
                    show Gl p e below _ (T23.setTop (mkF m 210 #[.val (.int p1), .val (.int p2), .val (.int p3), .val (.int p4), .val (.int p5), .val (.int p6), .val (.int l1), .val (.int l2), .val (.int f2), .val (.int g3), .val (.int g4), .val (.int y0), .val (.int y1), .val (.int y2), .val (.ref x8_), .val (.ref x9_), .val (.ref b11), .val (.ref b18), .unset, .unset, .unset, .unset, .unset] [(.int (1 : Int32))]))
                    refine Gl.of (fun _ kq_ => XS.goto X23.here hx rfl (pc0 := 210) (pc' := 214) rfl (hb hby at_210) (by decide) (by decide) kq_) ?_
                    show Gl p e below _ (T23.setTop (mkF m 214 #[.val (.int p1), .val (.int p2), .val (.int p3), .val (.int p4), .val (.int p5), .val (.int p6), .val (.int l1), .val (.int l2), .val (.int f2), .val (.int g3), .val (.int g4), .val (.int y0), .val (.int y1), .val (.int y2), .val (.ref x8_), .val (.ref x9_), .val (.ref b11), .val (.ref b18), .unset, .unset, .unset, .unset, .unset] [(.int (1 : Int32))]))
                    refine Gl.of (fun _ kq_ => XS.istore X23.here hx rfl (hb hby at_214) rfl (l' := #[.val (.int p1), .val (.int p2), .val (.int p3), .val (.int p4), .val (.int p5), .val (.int p6), .val (.int l1), .val (.int l2), .val (.int f2), .val (.int g3), .val (.int g4), .val (.int y0), .val (.int y1), .val (.int y2), .val (.ref x8_), .val (.ref x9_), .val (.ref b11), .val (.ref b18), .val (.int (1 : Int32)), .unset, .unset, .unset, .unset]) rfl kq_) ?_
                    show Gl p e below _ (T23.setTop (mkF m 216 #[.val (.int p1), .val (.int p2), .val (.int p3), .val (.int p4), .val (.int p5), .val (.int p6), .val (.int l1), .val (.int l2), .val (.int f2), .val (.int g3), .val (.int g4), .val (.int y0), .val (.int y1), .val (.int y2), .val (.ref x8_), .val (.ref x9_), .val (.ref b11), .val (.ref b18), .val (.int (1 : Int32)), .unset, .unset, .unset, .unset] []))
                    exact J216 _ (by unfold own_rel own_sp; rcases hl1 with rfl | rfl | rfl <;> rcases hl2 with rfl | rfl | rfl <;> simp_all)
                  · refine Gl.of (fun _ kq_ => XS.icmpYes X23.here hx rfl (pc0 := 206) (pc' := 213) rfl (hb hby at_206) rfl (feq hc206_51).2 (by decide) (by decide) kq_) ?_
                    show Gl p e below _ (T23.setTop (mkF m 213 #[.val (.int p1), .val (.int p2), .val (.int p3), .val (.int p4), .val (.int p5), .val (.int p6), .val (.int l1), .val (.int l2), .val (.int f2), .val (.int g3), .val (.int g4), .val (.int y0), .val (.int y1), .val (.int y2), .val (.ref x8_), .val (.ref x9_), .val (.ref b11), .val (.ref b18), .unset, .unset, .unset, .unset, .unset] []))
                    refine Gl.of (fun _ kq_ => XS.iconst X23.here hx rfl (hb hby at_213) kq_) ?_
                    show Gl p e below _ (T23.setTop (mkF m 214 #[.val (.int p1), .val (.int p2), .val (.int p3), .val (.int p4), .val (.int p5), .val (.int p6), .val (.int l1), .val (.int l2), .val (.int f2), .val (.int g3), .val (.int g4), .val (.int y0), .val (.int y1), .val (.int y2), .val (.ref x8_), .val (.ref x9_), .val (.ref b11), .val (.ref b18), .unset, .unset, .unset, .unset, .unset] [(.int (0 : Int32))]))
                    refine Gl.of (fun _ kq_ => XS.istore X23.here hx rfl (hb hby at_214) rfl (l' := #[.val (.int p1), .val (.int p2), .val (.int p3), .val (.int p4), .val (.int p5), .val (.int p6), .val (.int l1), .val (.int l2), .val (.int f2), .val (.int g3), .val (.int g4), .val (.int y0), .val (.int y1), .val (.int y2), .val (.ref x8_), .val (.ref x9_), .val (.ref b11), .val (.ref b18), .val (.int (0 : Int32)), .unset, .unset, .unset, .unset]) rfl kq_) ?_
                    show Gl p e below _ (T23.setTop (mkF m 216 #[.val (.int p1), .val (.int p2), .val (.int p3), .val (.int p4), .val (.int p5), .val (.int p6), .val (.int l1), .val (.int l2), .val (.int f2), .val (.int g3), .val (.int g4), .val (.int y0), .val (.int y1), .val (.int y2), .val (.ref x8_), .val (.ref x9_), .val (.ref b11), .val (.ref b18), .val (.int (0 : Int32)), .unset, .unset, .unset, .unset] []))
                    exact J216 _ (by unfold own_rel own_sp; rcases hl1 with rfl | rfl | rfl <;> rcases hl2 with rfl | rfl | rfl <;> simp_all)
              · refine Gl.of (fun _ kq_ => XS.icmpNo X23.here hx rfl (hb hby at_186) rfl (flt hc186_49).1 kq_) ?_
                show Gl p e below _ (T23.setTop (mkF m 189 #[.val (.int p1), .val (.int p2), .val (.int p3), .val (.int p4), .val (.int p5), .val (.int p6), .val (.int l1), .val (.int l2), .val (.int f2), .val (.int g3), .val (.int g4), .val (.int y0), .val (.int y1), .val (.int y2), .val (.ref x8_), .val (.ref x9_), .val (.ref b11), .val (.ref b18), .unset, .unset, .unset, .unset, .unset] []))
                refine Gl.of (fun _ kq_ => XS.iload X23.here hx rfl (hb hby at_189) rfl kq_) ?_
                show Gl p e below _ (T23.setTop (mkF m 191 #[.val (.int p1), .val (.int p2), .val (.int p3), .val (.int p4), .val (.int p5), .val (.int p6), .val (.int l1), .val (.int l2), .val (.int f2), .val (.int g3), .val (.int g4), .val (.int y0), .val (.int y1), .val (.int y2), .val (.ref x8_), .val (.ref x9_), .val (.ref b11), .val (.ref b18), .unset, .unset, .unset, .unset, .unset] [(.int g3)]))
                refine Gl.of (fun _ kq_ => XS.iload X23.here hx rfl (hb hby at_191) rfl kq_) ?_
                show Gl p e below _ (T23.setTop (mkF m 193 #[.val (.int p1), .val (.int p2), .val (.int p3), .val (.int p4), .val (.int p5), .val (.int p6), .val (.int l1), .val (.int l2), .val (.int f2), .val (.int g3), .val (.int g4), .val (.int y0), .val (.int y1), .val (.int y2), .val (.ref x8_), .val (.ref x9_), .val (.ref b11), .val (.ref b18), .unset, .unset, .unset, .unset, .unset] [(.int y1), (.int g3)]))
                by_cases hc193_52 : g3 = y1
                · refine Gl.of (fun _ kq_ => XS.icmpNo X23.here hx rfl (hb hby at_193) rfl (teq hc193_52).2 kq_) ?_
                  show Gl p e below _ (T23.setTop (mkF m 196 #[.val (.int p1), .val (.int p2), .val (.int p3), .val (.int p4), .val (.int p5), .val (.int p6), .val (.int l1), .val (.int l2), .val (.int f2), .val (.int g3), .val (.int g4), .val (.int y0), .val (.int y1), .val (.int y2), .val (.ref x8_), .val (.ref x9_), .val (.ref b11), .val (.ref b18), .unset, .unset, .unset, .unset, .unset] []))
                  refine Gl.of (fun _ kq_ => XS.iload X23.here hx rfl (hb hby at_196) rfl kq_) ?_
                  show Gl p e below _ (T23.setTop (mkF m 198 #[.val (.int p1), .val (.int p2), .val (.int p3), .val (.int p4), .val (.int p5), .val (.int p6), .val (.int l1), .val (.int l2), .val (.int f2), .val (.int g3), .val (.int g4), .val (.int y0), .val (.int y1), .val (.int y2), .val (.ref x8_), .val (.ref x9_), .val (.ref b11), .val (.ref b18), .unset, .unset, .unset, .unset, .unset] [(.int l1)]))
                  refine Gl.of (fun _ kq_ => XS.iconst X23.here hx rfl (hb hby at_198) kq_) ?_
                  show Gl p e below _ (T23.setTop (mkF m 199 #[.val (.int p1), .val (.int p2), .val (.int p3), .val (.int p4), .val (.int p5), .val (.int p6), .val (.int l1), .val (.int l2), .val (.int f2), .val (.int g3), .val (.int g4), .val (.int y0), .val (.int y1), .val (.int y2), .val (.ref x8_), .val (.ref x9_), .val (.ref b11), .val (.ref b18), .unset, .unset, .unset, .unset, .unset] [(.int (3 : Int32)), (.int l1)]))
                  by_cases hc199_53 : l1 < (3 : Int32)
                  · refine Gl.of (fun _ kq_ => XS.icmpYes X23.here hx rfl (pc0 := 199) (pc' := 209) rfl (hb hby at_199) rfl (tlt hc199_53).1 (by decide) (by decide) kq_) ?_
                    show Gl p e below _ (T23.setTop (mkF m 209 #[.val (.int p1), .val (.int p2), .val (.int p3), .val (.int p4), .val (.int p5), .val (.int p6), .val (.int l1), .val (.int l2), .val (.int f2), .val (.int g3), .val (.int g4), .val (.int y0), .val (.int y1), .val (.int y2), .val (.ref x8_), .val (.ref x9_), .val (.ref b11), .val (.ref b18), .unset, .unset, .unset, .unset, .unset] []))
                    refine Gl.of (fun _ kq_ => XS.iconst X23.here hx rfl (hb hby at_209) kq_) ?_
                    show Gl p e below _ (T23.setTop (mkF m 210 #[.val (.int p1), .val (.int p2), .val (.int p3), .val (.int p4), .val (.int p5), .val (.int p6), .val (.int l1), .val (.int l2), .val (.int f2), .val (.int g3), .val (.int g4), .val (.int y0), .val (.int y1), .val (.int y2), .val (.ref x8_), .val (.ref x9_), .val (.ref b11), .val (.ref b18), .unset, .unset, .unset, .unset, .unset] [(.int (1 : Int32))]))
                    refine Gl.of (fun _ kq_ => XS.goto X23.here hx rfl (pc0 := 210) (pc' := 214) rfl (hb hby at_210) (by decide) (by decide) kq_) ?_
                    show Gl p e below _ (T23.setTop (mkF m 214 #[.val (.int p1), .val (.int p2), .val (.int p3), .val (.int p4), .val (.int p5), .val (.int p6), .val (.int l1), .val (.int l2), .val (.int f2), .val (.int g3), .val (.int g4), .val (.int y0), .val (.int y1), .val (.int y2), .val (.ref x8_), .val (.ref x9_), .val (.ref b11), .val (.ref b18), .unset, .unset, .unset, .unset, .unset] [(.int (1 : Int32))]))
                    refine Gl.of (fun _ kq_ => XS.istore X23.here hx rfl (hb hby at_214) rfl (l' := #[.val (.int p1), .val (.int p2), .val (.int p3), .val (.int p4), .val (.int p5), .val (.int p6), .val (.int l1), .val (.int l2), .val (.int f2), .val (.int g3), .val (.int g4), .val (.int y0), .val (.int y1), .val (.int y2), .val (.ref x8_), .val (.ref x9_), .val (.ref b11), .val (.ref b18), .val (.int (1 : Int32)), .unset, .unset, .unset, .unset]) rfl kq_) ?_
                    show Gl p e below _ (T23.setTop (mkF m 216 #[.val (.int p1), .val (.int p2), .val (.int p3), .val (.int p4), .val (.int p5), .val (.int p6), .val (.int l1), .val (.int l2), .val (.int f2), .val (.int g3), .val (.int g4), .val (.int y0), .val (.int y1), .val (.int y2), .val (.ref x8_), .val (.ref x9_), .val (.ref b11), .val (.ref b18), .val (.int (1 : Int32)), .unset, .unset, .unset, .unset] []))
                    exact J216 _ (by unfold own_rel own_sp; rcases hl1 with rfl | rfl | rfl <;> rcases hl2 with rfl | rfl | rfl <;> simp_all)
                  · refine Gl.of (fun _ kq_ => XS.icmpNo X23.here hx rfl (hb hby at_199) rfl (flt hc199_53).1 kq_) ?_
                    show Gl p e below _ (T23.setTop (mkF m 202 #[.val (.int p1), .val (.int p2), .val (.int p3), .val (.int p4), .val (.int p5), .val (.int p6), .val (.int l1), .val (.int l2), .val (.int f2), .val (.int g3), .val (.int g4), .val (.int y0), .val (.int y1), .val (.int y2), .val (.ref x8_), .val (.ref x9_), .val (.ref b11), .val (.ref b18), .unset, .unset, .unset, .unset, .unset] []))
                    refine Gl.of (fun _ kq_ => XS.iload X23.here hx rfl (hb hby at_202) rfl kq_) ?_
                    show Gl p e below _ (T23.setTop (mkF m 204 #[.val (.int p1), .val (.int p2), .val (.int p3), .val (.int p4), .val (.int p5), .val (.int p6), .val (.int l1), .val (.int l2), .val (.int f2), .val (.int g3), .val (.int g4), .val (.int y0), .val (.int y1), .val (.int y2), .val (.ref x8_), .val (.ref x9_), .val (.ref b11), .val (.ref b18), .unset, .unset, .unset, .unset, .unset] [(.int g4)]))
                    refine Gl.of (fun _ kq_ => XS.iload X23.here hx rfl (hb hby at_204) rfl kq_) ?_
                    show Gl p e below _ (T23.setTop (mkF m 206 #[.val (.int p1), .val (.int p2), .val (.int p3), .val (.int p4), .val (.int p5), .val (.int p6), .val (.int l1), .val (.int l2), .val (.int f2), .val (.int g3), .val (.int g4), .val (.int y0), .val (.int y1), .val (.int y2), .val (.ref x8_), .val (.ref x9_), .val (.ref b11), .val (.ref b18), .unset, .unset, .unset, .unset, .unset] [(.int y2), (.int g4)]))
                    by_cases hc206_54 : g4 = y2
                    · refine Gl.of (fun _ kq_ => XS.icmpNo X23.here hx rfl (hb hby at_206) rfl (teq hc206_54).2 kq_) ?_
                      show Gl p e below _ (T23.setTop (mkF m 209 #[.val (.int p1), .val (.int p2), .val (.int p3), .val (.int p4), .val (.int p5), .val (.int p6), .val (.int l1), .val (.int l2), .val (.int f2), .val (.int g3), .val (.int g4), .val (.int y0), .val (.int y1), .val (.int y2), .val (.ref x8_), .val (.ref x9_), .val (.ref b11), .val (.ref b18), .unset, .unset, .unset, .unset, .unset] []))
                      refine Gl.of (fun _ kq_ => XS.iconst X23.here hx rfl (hb hby at_209) kq_) ?_
                      show Gl p e below _ (T23.setTop (mkF m 210 #[.val (.int p1), .val (.int p2), .val (.int p3), .val (.int p4), .val (.int p5), .val (.int p6), .val (.int l1), .val (.int l2), .val (.int f2), .val (.int g3), .val (.int g4), .val (.int y0), .val (.int y1), .val (.int y2), .val (.ref x8_), .val (.ref x9_), .val (.ref b11), .val (.ref b18), .unset, .unset, .unset, .unset, .unset] [(.int (1 : Int32))]))
                      refine Gl.of (fun _ kq_ => XS.goto X23.here hx rfl (pc0 := 210) (pc' := 214) rfl (hb hby at_210) (by decide) (by decide) kq_) ?_
                      show Gl p e below _ (T23.setTop (mkF m 214 #[.val (.int p1), .val (.int p2), .val (.int p3), .val (.int p4), .val (.int p5), .val (.int p6), .val (.int l1), .val (.int l2), .val (.int f2), .val (.int g3), .val (.int g4), .val (.int y0), .val (.int y1), .val (.int y2), .val (.ref x8_), .val (.ref x9_), .val (.ref b11), .val (.ref b18), .unset, .unset, .unset, .unset, .unset] [(.int (1 : Int32))]))
                      refine Gl.of (fun _ kq_ => XS.istore X23.here hx rfl (hb hby at_214) rfl (l' := #[.val (.int p1), .val (.int p2), .val (.int p3), .val (.int p4), .val (.int p5), .val (.int p6), .val (.int l1), .val (.int l2), .val (.int f2), .val (.int g3), .val (.int g4), .val (.int y0), .val (.int y1), .val (.int y2), .val (.ref x8_), .val (.ref x9_), .val (.ref b11), .val (.ref b18), .val (.int (1 : Int32)), .unset, .unset, .unset, .unset]) rfl kq_) ?_
                      show Gl p e below _ (T23.setTop (mkF m 216 #[.val (.int p1), .val (.int p2), .val (.int p3), .val (.int p4), .val (.int p5), .val (.int p6), .val (.int l1), .val (.int l2), .val (.int f2), .val (.int g3), .val (.int g4), .val (.int y0), .val (.int y1), .val (.int y2), .val (.ref x8_), .val (.ref x9_), .val (.ref b11), .val (.ref b18), .val (.int (1 : Int32)), .unset, .unset, .unset, .unset] []))
                      exact J216 _ (by unfold own_rel own_sp; rcases hl1 with rfl | rfl | rfl <;> rcases hl2 with rfl | rfl | rfl <;> simp_all)
                    · refine Gl.of (fun _ kq_ => XS.icmpYes X23.here hx rfl (pc0 := 206) (pc' := 213) rfl (hb hby at_206) rfl (feq hc206_54).2 (by decide) (by decide) kq_) ?_
                      show Gl p e below _ (T23.setTop (mkF m 213 #[.val (.int p1), .val (.int p2), .val (.int p3), .val (.int p4), .val (.int p5), .val (.int p6), .val (.int l1), .val (.int l2), .val (.int f2), .val (.int g3), .val (.int g4), .val (.int y0), .val (.int y1), .val (.int y2), .val (.ref x8_), .val (.ref x9_), .val (.ref b11), .val (.ref b18), .unset, .unset, .unset, .unset, .unset] []))
                      refine Gl.of (fun _ kq_ => XS.iconst X23.here hx rfl (hb hby at_213) kq_) ?_
                      show Gl p e below _ (T23.setTop (mkF m 214 #[.val (.int p1), .val (.int p2), .val (.int p3), .val (.int p4), .val (.int p5), .val (.int p6), .val (.int l1), .val (.int l2), .val (.int f2), .val (.int g3), .val (.int g4), .val (.int y0), .val (.int y1), .val (.int y2), .val (.ref x8_), .val (.ref x9_), .val (.ref b11), .val (.ref b18), .unset, .unset, .unset, .unset, .unset] [(.int (0 : Int32))]))
                      refine Gl.of (fun _ kq_ => XS.istore X23.here hx rfl (hb hby at_214) rfl (l' := #[.val (.int p1), .val (.int p2), .val (.int p3), .val (.int p4), .val (.int p5), .val (.int p6), .val (.int l1), .val (.int l2), .val (.int f2), .val (.int g3), .val (.int g4), .val (.int y0), .val (.int y1), .val (.int y2), .val (.ref x8_), .val (.ref x9_), .val (.ref b11), .val (.ref b18), .val (.int (0 : Int32)), .unset, .unset, .unset, .unset]) rfl kq_) ?_
                      show Gl p e below _ (T23.setTop (mkF m 216 #[.val (.int p1), .val (.int p2), .val (.int p3), .val (.int p4), .val (.int p5), .val (.int p6), .val (.int l1), .val (.int l2), .val (.int f2), .val (.int g3), .val (.int g4), .val (.int y0), .val (.int y1), .val (.int y2), .val (.ref x8_), .val (.ref x9_), .val (.ref b11), .val (.ref b18), .val (.int (0 : Int32)), .unset, .unset, .unset, .unset] []))
                      exact J216 _ (by unfold own_rel own_sp; rcases hl1 with rfl | rfl | rfl <;> rcases hl2 with rfl | rfl | rfl <;> simp_all)
                · refine Gl.of (fun _ kq_ => XS.icmpYes X23.here hx rfl (pc0 := 193) (pc' := 213) rfl (hb hby at_193) rfl (feq hc193_52).2 (by decide) (by decide) kq_) ?_
                  show Gl p e below _ (T23.setTop (mkF m 213 #[.val (.int p1), .val (.int p2), .val (.int p3), .val (.int p4), .val (.int p5), .val (.int p6), .val (.int l1), .val (.int l2), .val (.int f2), .val (.int g3), .val (.int g4), .val (.int y0), .val (.int y1), .val (.int y2), .val (.ref x8_), .val (.ref x9_), .val (.ref b11), .val (.ref b18), .unset, .unset, .unset, .unset, .unset] []))
                  refine Gl.of (fun _ kq_ => XS.iconst X23.here hx rfl (hb hby at_213) kq_) ?_
                  show Gl p e below _ (T23.setTop (mkF m 214 #[.val (.int p1), .val (.int p2), .val (.int p3), .val (.int p4), .val (.int p5), .val (.int p6), .val (.int l1), .val (.int l2), .val (.int f2), .val (.int g3), .val (.int g4), .val (.int y0), .val (.int y1), .val (.int y2), .val (.ref x8_), .val (.ref x9_), .val (.ref b11), .val (.ref b18), .unset, .unset, .unset, .unset, .unset] [(.int (0 : Int32))]))
                  refine Gl.of (fun _ kq_ => XS.istore X23.here hx rfl (hb hby at_214) rfl (l' := #[.val (.int p1), .val (.int p2), .val (.int p3), .val (.int p4), .val (.int p5), .val (.int p6), .val (.int l1), .val (.int l2), .val (.int f2), .val (.int g3), .val (.int g4), .val (.int y0), .val (.int y1), .val (.int y2), .val (.ref x8_), .val (.ref x9_), .val (.ref b11), .val (.ref b18), .val (.int (0 : Int32)), .unset, .unset, .unset, .unset]) rfl kq_) ?_
                  show Gl p e below _ (T23.setTop (mkF m 216 #[.val (.int p1), .val (.int p2), .val (.int p3), .val (.int p4), .val (.int p5), .val (.int p6), .val (.int l1), .val (.int l2), .val (.int f2), .val (.int g3), .val (.int g4), .val (.int y0), .val (.int y1), .val (.int y2), .val (.ref x8_), .val (.ref x9_), .val (.ref b11), .val (.ref b18), .val (.int (0 : Int32)), .unset, .unset, .unset, .unset] []))
                  exact J216 _ (by unfold own_rel own_sp; rcases hl1 with rfl | rfl | rfl <;> rcases hl2 with rfl | rfl | rfl <;> simp_all)
            · refine Gl.of (fun _ kq_ => XS.icmpYes X23.here hx rfl (pc0 := 180) (pc' := 213) rfl (hb hby at_180) rfl (feq hc180_48).2 (by decide) (by decide) kq_) ?_
              show Gl p e below _ (T23.setTop (mkF m 213 #[.val (.int p1), .val (.int p2), .val (.int p3), .val (.int p4), .val (.int p5), .val (.int p6), .val (.int l1), .val (.int l2), .val (.int f2), .val (.int g3), .val (.int g4), .val (.int y0), .val (.int y1), .val (.int y2), .val (.ref x8_), .val (.ref x9_), .val (.ref b11), .val (.ref b18), .unset, .unset, .unset, .unset, .unset] []))
              refine Gl.of (fun _ kq_ => XS.iconst X23.here hx rfl (hb hby at_213) kq_) ?_
              show Gl p e below _ (T23.setTop (mkF m 214 #[.val (.int p1), .val (.int p2), .val (.int p3), .val (.int p4), .val (.int p5), .val (.int p6), .val (.int l1), .val (.int l2), .val (.int f2), .val (.int g3), .val (.int g4), .val (.int y0), .val (.int y1), .val (.int y2), .val (.ref x8_), .val (.ref x9_), .val (.ref b11), .val (.ref b18), .unset, .unset, .unset, .unset, .unset] [(.int (0 : Int32))]))
              refine Gl.of (fun _ kq_ => XS.istore X23.here hx rfl (hb hby at_214) rfl (l' := #[.val (.int p1), .val (.int p2), .val (.int p3), .val (.int p4), .val (.int p5), .val (.int p6), .val (.int l1), .val (.int l2), .val (.int f2), .val (.int g3), .val (.int g4), .val (.int y0), .val (.int y1), .val (.int y2), .val (.ref x8_), .val (.ref x9_), .val (.ref b11), .val (.ref b18), .val (.int (0 : Int32)), .unset, .unset, .unset, .unset]) rfl kq_) ?_
              show Gl p e below _ (T23.setTop (mkF m 216 #[.val (.int p1), .val (.int p2), .val (.int p3), .val (.int p4), .val (.int p5), .val (.int p6), .val (.int l1), .val (.int l2), .val (.int f2), .val (.int g3), .val (.int g4), .val (.int y0), .val (.int y1), .val (.int y2), .val (.ref x8_), .val (.ref x9_), .val (.ref b11), .val (.ref b18), .val (.int (0 : Int32)), .unset, .unset, .unset, .unset] []))
              exact J216 _ (by unfold own_rel own_sp; rcases hl1 with rfl | rfl | rfl <;> rcases hl2 with rfl | rfl | rfl <;> simp_all)
          · refine Gl.of (fun _ kq_ => XS.icmpYes X23.here hx rfl (pc0 := 173) (pc' := 213) rfl (hb hby at_173) rfl (feq hc173_47).2 (by decide) (by decide) kq_) ?_
            show Gl p e below _ (T23.setTop (mkF m 213 #[.val (.int p1), .val (.int p2), .val (.int p3), .val (.int p4), .val (.int p5), .val (.int p6), .val (.int l1), .val (.int l2), .val (.int f2), .val (.int g3), .val (.int g4), .val (.int y0), .val (.int y1), .val (.int y2), .val (.ref x8_), .val (.ref x9_), .val (.ref b11), .val (.ref b18), .unset, .unset, .unset, .unset, .unset] []))
            refine Gl.of (fun _ kq_ => XS.iconst X23.here hx rfl (hb hby at_213) kq_) ?_
            show Gl p e below _ (T23.setTop (mkF m 214 #[.val (.int p1), .val (.int p2), .val (.int p3), .val (.int p4), .val (.int p5), .val (.int p6), .val (.int l1), .val (.int l2), .val (.int f2), .val (.int g3), .val (.int g4), .val (.int y0), .val (.int y1), .val (.int y2), .val (.ref x8_), .val (.ref x9_), .val (.ref b11), .val (.ref b18), .unset, .unset, .unset, .unset, .unset] [(.int (0 : Int32))]))
            refine Gl.of (fun _ kq_ => XS.istore X23.here hx rfl (hb hby at_214) rfl (l' := #[.val (.int p1), .val (.int p2), .val (.int p3), .val (.int p4), .val (.int p5), .val (.int p6), .val (.int l1), .val (.int l2), .val (.int f2), .val (.int g3), .val (.int g4), .val (.int y0), .val (.int y1), .val (.int y2), .val (.ref x8_), .val (.ref x9_), .val (.ref b11), .val (.ref b18), .val (.int (0 : Int32)), .unset, .unset, .unset, .unset]) rfl kq_) ?_
            show Gl p e below _ (T23.setTop (mkF m 216 #[.val (.int p1), .val (.int p2), .val (.int p3), .val (.int p4), .val (.int p5), .val (.int p6), .val (.int l1), .val (.int l2), .val (.int f2), .val (.int g3), .val (.int g4), .val (.int y0), .val (.int y1), .val (.int y2), .val (.ref x8_), .val (.ref x9_), .val (.ref b11), .val (.ref b18), .val (.int (0 : Int32)), .unset, .unset, .unset, .unset] []))
            exact J216 _ (by unfold own_rel own_sp; rcases hl1 with rfl | rfl | rfl <;> rcases hl2 with rfl | rfl | rfl <;> simp_all)
        show Gl p e below _ (T6.setTop (mkF m 97 #[.val (.int p1), .val (.int p2), .val (.int p3), .val (.int p4), .val (.int p5), .val (.int p6), .val (.int l1), .val (.int l2), .val (.int f2), .val (.int g3), .val (.int g4), .val (.int y0), .val (.int y1), .unset, .unset, .unset, .unset, .unset, .unset, .unset, .unset, .unset, .unset] []))
        refine Gl.of (fun _ kq_ => XS.iload X6.here hx rfl (hb hby at_97) rfl kq_) ?_
        show Gl p e below _ (T6.setTop (mkF m 99 #[.val (.int p1), .val (.int p2), .val (.int p3), .val (.int p4), .val (.int p5), .val (.int p6), .val (.int l1), .val (.int l2), .val (.int f2), .val (.int g3), .val (.int g4), .val (.int y0), .val (.int y1), .unset, .unset, .unset, .unset, .unset, .unset, .unset, .unset, .unset, .unset] [(.int p6)]))
        refine Gl.of (fun _ kq_ => XS.bipush X6.here hx rfl (hb hby at_99) kq_) ?_
        show Gl p e below _ (T6.setTop (mkF m 101 #[.val (.int p1), .val (.int p2), .val (.int p3), .val (.int p4), .val (.int p5), .val (.int p6), .val (.int l1), .val (.int l2), .val (.int f2), .val (.int g3), .val (.int g4), .val (.int y0), .val (.int y1), .unset, .unset, .unset, .unset, .unset, .unset, .unset, .unset, .unset, .unset] [(.int (6 : Int32)), (.int p6)]))
        refine Gl.of (fun _ kq_ => XS.iushr X6.here hx rfl (hb hby at_101) rfl kq_) ?_
        show Gl p e below _ (T6.setTop (mkF m 102 #[.val (.int p1), .val (.int p2), .val (.int p3), .val (.int p4), .val (.int p5), .val (.int p6), .val (.int l1), .val (.int l2), .val (.int f2), .val (.int g3), .val (.int g4), .val (.int y0), .val (.int y1), .unset, .unset, .unset, .unset, .unset, .unset, .unset, .unset, .unset, .unset] [(.int ((p6.toUInt32 >>> ((6 : Int32) &&& 31).toUInt32).toInt32))]))
        refine Gl.of (fun _ kq_ => XS.iconst X6.here hx rfl (hb hby at_102) kq_) ?_
        show Gl p e below _ (T6.setTop (mkF m 103 #[.val (.int p1), .val (.int p2), .val (.int p3), .val (.int p4), .val (.int p5), .val (.int p6), .val (.int l1), .val (.int l2), .val (.int f2), .val (.int g3), .val (.int g4), .val (.int y0), .val (.int y1), .unset, .unset, .unset, .unset, .unset, .unset, .unset, .unset, .unset, .unset] [(.int (1 : Int32)), (.int ((p6.toUInt32 >>> ((6 : Int32) &&& 31).toUInt32).toInt32))]))
        refine Gl.of (fun _ kq_ => XS.iand X6.here hx rfl (hb hby at_103) rfl kq_) ?_
        show Gl p e below _ (T6.setTop (mkF m 104 #[.val (.int p1), .val (.int p2), .val (.int p3), .val (.int p4), .val (.int p5), .val (.int p6), .val (.int l1), .val (.int l2), .val (.int f2), .val (.int g3), .val (.int g4), .val (.int y0), .val (.int y1), .unset, .unset, .unset, .unset, .unset, .unset, .unset, .unset, .unset, .unset] [(.int (((p6.toUInt32 >>> ((6 : Int32) &&& 31).toUInt32).toInt32) &&& (1 : Int32)))]))
        by_cases hc104_55 : (((p6.toUInt32 >>> ((6 : Int32) &&& 31).toUInt32).toInt32) &&& (1 : Int32)) = (0 : Int32)
        · refine Gl.of (fun _ kq_ => XS.ifYes X6.here hx rfl (pc0 := 104) (pc' := 112) rfl (hb hby at_104) rfl ((if0 _ _).trans (teq hc104_55).1) (by decide) (by decide) kq_) ?_
          show Gl p e below _ (T6.setTop (mkF m 112 #[.val (.int p1), .val (.int p2), .val (.int p3), .val (.int p4), .val (.int p5), .val (.int p6), .val (.int l1), .val (.int l2), .val (.int f2), .val (.int g3), .val (.int g4), .val (.int y0), .val (.int y1), .unset, .unset, .unset, .unset, .unset, .unset, .unset, .unset, .unset, .unset] []))
          refine Gl.of (fun _ kq_ => XS.iloadN X6.here hx rfl (hb hby at_112) rfl kq_) ?_
          show Gl p e below _ (T6.setTop (mkF m 113 #[.val (.int p1), .val (.int p2), .val (.int p3), .val (.int p4), .val (.int p5), .val (.int p6), .val (.int l1), .val (.int l2), .val (.int f2), .val (.int g3), .val (.int g4), .val (.int y0), .val (.int y1), .unset, .unset, .unset, .unset, .unset, .unset, .unset, .unset, .unset, .unset] [(.int p4)]))
          refine Gl.of (fun _ kq_ => XS.bipush X6.here hx rfl (hb hby at_113) kq_) ?_
          show Gl p e below _ (T6.setTop (mkF m 115 #[.val (.int p1), .val (.int p2), .val (.int p3), .val (.int p4), .val (.int p5), .val (.int p6), .val (.int l1), .val (.int l2), .val (.int f2), .val (.int g3), .val (.int g4), .val (.int y0), .val (.int y1), .unset, .unset, .unset, .unset, .unset, .unset, .unset, .unset, .unset, .unset] [(.int (8 : Int32)), (.int p4)]))
          refine Gl.of (fun _ kq_ => XS.iushr X6.here hx rfl (hb hby at_115) rfl kq_) ?_
          show Gl p e below _ (T6.setTop (mkF m 116 #[.val (.int p1), .val (.int p2), .val (.int p3), .val (.int p4), .val (.int p5), .val (.int p6), .val (.int l1), .val (.int l2), .val (.int f2), .val (.int g3), .val (.int g4), .val (.int y0), .val (.int y1), .unset, .unset, .unset, .unset, .unset, .unset, .unset, .unset, .unset, .unset] [(.int ((p4.toUInt32 >>> ((8 : Int32) &&& 31).toUInt32).toInt32))]))
          refine Gl.callS0 X6 hx hZ (y := (⟨"com/example/schenley/schenley/IdentifierEqualsPinLaw", "anyPlain", "(I)C"⟩ : MethodName)) hown (w5 hw) (w6 hw) (w2 hw) (w7 hw) (desc_ne (by decide)) (argsL := [(.int ((p4.toUInt32 >>> ((8 : Int32) &&& 31).toUInt32).toInt32))]) (rest := []) (rm2 l Z a0 hw _ ((p4.toUInt32 >>> ((8 : Int32) &&& 31).toUInt32).toInt32)) 0 (by decide) (by decide) e6 (pc := 116) (Ls := #[.val (.int p1), .val (.int p2), .val (.int p3), .val (.int p4), .val (.int p5), .val (.int p6), .val (.int l1), .val (.int l2), .val (.int f2), .val (.int g3), .val (.int g4), .val (.int y0), .val (.int y1), .unset, .unset, .unset, .unset, .unset, .unset, .unset, .unset, .unset, .unset]) (st := [(.int ((p4.toUInt32 >>> ((8 : Int32) &&& 31).toUInt32).toInt32))]) (by rw [hml]; rfl) pd_6 rfl rfl (Nat.le_of_eq rfl) (hb hby at_116) (by decide) (by decide) ?_
          intro v56 T56 X56 e56 hv56
          obtain ⟨g56, rfl, hg56⟩ := hv56
          show Gl p e below _ (T56.setTop (mkF m 119 #[.val (.int p1), .val (.int p2), .val (.int p3), .val (.int p4), .val (.int p5), .val (.int p6), .val (.int l1), .val (.int l2), .val (.int f2), .val (.int g3), .val (.int g4), .val (.int y0), .val (.int y1), .unset, .unset, .unset, .unset, .unset, .unset, .unset, .unset, .unset, .unset] [(.int g56)]))
          exact J119 _ X56 e56 _ hg56
        · refine Gl.of (fun _ kq_ => XS.ifNo X6.here hx rfl (hb hby at_104) rfl ((if0 _ _).trans (feq hc104_55).1) kq_) ?_
          show Gl p e below _ (T6.setTop (mkF m 107 #[.val (.int p1), .val (.int p2), .val (.int p3), .val (.int p4), .val (.int p5), .val (.int p6), .val (.int l1), .val (.int l2), .val (.int f2), .val (.int g3), .val (.int g4), .val (.int y0), .val (.int y1), .unset, .unset, .unset, .unset, .unset, .unset, .unset, .unset, .unset, .unset] []))
          refine Gl.of (fun _ kq_ => XS.iload X6.here hx rfl (hb hby at_107) rfl kq_) ?_
          show Gl p e below _ (T6.setTop (mkF m 109 #[.val (.int p1), .val (.int p2), .val (.int p3), .val (.int p4), .val (.int p5), .val (.int p6), .val (.int l1), .val (.int l2), .val (.int f2), .val (.int g3), .val (.int g4), .val (.int y0), .val (.int y1), .unset, .unset, .unset, .unset, .unset, .unset, .unset, .unset, .unset, .unset] [(.int g4)]))
          refine Gl.of (fun _ kq_ => XS.goto X6.here hx rfl (pc0 := 109) (pc' := 119) rfl (hb hby at_109) (by decide) (by decide) kq_) ?_
          show Gl p e below _ (T6.setTop (mkF m 119 #[.val (.int p1), .val (.int p2), .val (.int p3), .val (.int p4), .val (.int p5), .val (.int p6), .val (.int l1), .val (.int l2), .val (.int f2), .val (.int g3), .val (.int g4), .val (.int y0), .val (.int y1), .unset, .unset, .unset, .unset, .unset, .unset, .unset, .unset, .unset, .unset] [(.int g4)]))
          exact J119 _ X6 e6 _ hg4
      show Gl p e below _ (T5.setTop (mkF m 76 #[.val (.int p1), .val (.int p2), .val (.int p3), .val (.int p4), .val (.int p5), .val (.int p6), .val (.int l1), .val (.int l2), .val (.int f2), .val (.int g3), .val (.int g4), .val (.int y0), .unset, .unset, .unset, .unset, .unset, .unset, .unset, .unset, .unset, .unset, .unset] []))
      refine Gl.of (fun _ kq_ => XS.iload X5.here hx rfl (hb hby at_76) rfl kq_) ?_
      show Gl p e below _ (T5.setTop (mkF m 78 #[.val (.int p1), .val (.int p2), .val (.int p3), .val (.int p4), .val (.int p5), .val (.int p6), .val (.int l1), .val (.int l2), .val (.int f2), .val (.int g3), .val (.int g4), .val (.int y0), .unset, .unset, .unset, .unset, .unset, .unset, .unset, .unset, .unset, .unset, .unset] [(.int p6)]))
      refine Gl.of (fun _ kq_ => XS.iconst X5.here hx rfl (hb hby at_78) kq_) ?_
      show Gl p e below _ (T5.setTop (mkF m 79 #[.val (.int p1), .val (.int p2), .val (.int p3), .val (.int p4), .val (.int p5), .val (.int p6), .val (.int l1), .val (.int l2), .val (.int f2), .val (.int g3), .val (.int g4), .val (.int y0), .unset, .unset, .unset, .unset, .unset, .unset, .unset, .unset, .unset, .unset, .unset] [(.int (5 : Int32)), (.int p6)]))
      refine Gl.of (fun _ kq_ => XS.iushr X5.here hx rfl (hb hby at_79) rfl kq_) ?_
      show Gl p e below _ (T5.setTop (mkF m 80 #[.val (.int p1), .val (.int p2), .val (.int p3), .val (.int p4), .val (.int p5), .val (.int p6), .val (.int l1), .val (.int l2), .val (.int f2), .val (.int g3), .val (.int g4), .val (.int y0), .unset, .unset, .unset, .unset, .unset, .unset, .unset, .unset, .unset, .unset, .unset] [(.int ((p6.toUInt32 >>> ((5 : Int32) &&& 31).toUInt32).toInt32))]))
      refine Gl.of (fun _ kq_ => XS.iconst X5.here hx rfl (hb hby at_80) kq_) ?_
      show Gl p e below _ (T5.setTop (mkF m 81 #[.val (.int p1), .val (.int p2), .val (.int p3), .val (.int p4), .val (.int p5), .val (.int p6), .val (.int l1), .val (.int l2), .val (.int f2), .val (.int g3), .val (.int g4), .val (.int y0), .unset, .unset, .unset, .unset, .unset, .unset, .unset, .unset, .unset, .unset, .unset] [(.int (1 : Int32)), (.int ((p6.toUInt32 >>> ((5 : Int32) &&& 31).toUInt32).toInt32))]))
      refine Gl.of (fun _ kq_ => XS.iand X5.here hx rfl (hb hby at_81) rfl kq_) ?_
      show Gl p e below _ (T5.setTop (mkF m 82 #[.val (.int p1), .val (.int p2), .val (.int p3), .val (.int p4), .val (.int p5), .val (.int p6), .val (.int l1), .val (.int l2), .val (.int f2), .val (.int g3), .val (.int g4), .val (.int y0), .unset, .unset, .unset, .unset, .unset, .unset, .unset, .unset, .unset, .unset, .unset] [(.int (((p6.toUInt32 >>> ((5 : Int32) &&& 31).toUInt32).toInt32) &&& (1 : Int32)))]))
      by_cases hc82_57 : (((p6.toUInt32 >>> ((5 : Int32) &&& 31).toUInt32).toInt32) &&& (1 : Int32)) = (0 : Int32)
      · refine Gl.of (fun _ kq_ => XS.ifYes X5.here hx rfl (pc0 := 82) (pc' := 90) rfl (hb hby at_82) rfl ((if0 _ _).trans (teq hc82_57).1) (by decide) (by decide) kq_) ?_
        show Gl p e below _ (T5.setTop (mkF m 90 #[.val (.int p1), .val (.int p2), .val (.int p3), .val (.int p4), .val (.int p5), .val (.int p6), .val (.int l1), .val (.int l2), .val (.int f2), .val (.int g3), .val (.int g4), .val (.int y0), .unset, .unset, .unset, .unset, .unset, .unset, .unset, .unset, .unset, .unset, .unset] []))
        refine Gl.of (fun _ kq_ => XS.iload X5.here hx rfl (hb hby at_90) rfl kq_) ?_
        show Gl p e below _ (T5.setTop (mkF m 92 #[.val (.int p1), .val (.int p2), .val (.int p3), .val (.int p4), .val (.int p5), .val (.int p6), .val (.int l1), .val (.int l2), .val (.int f2), .val (.int g3), .val (.int g4), .val (.int y0), .unset, .unset, .unset, .unset, .unset, .unset, .unset, .unset, .unset, .unset, .unset] [(.int p5)]))
        refine Gl.callS0 X5 hx hZ (y := (⟨"com/example/schenley/schenley/IdentifierEqualsPinLaw", "anyPlain", "(I)C"⟩ : MethodName)) hown (w5 hw) (w6 hw) (w2 hw) (w7 hw) (desc_ne (by decide)) (argsL := [(.int p5)]) (rest := []) (rm2 l Z a0 hw _ p5) 0 (by decide) (by decide) e5 (pc := 92) (Ls := #[.val (.int p1), .val (.int p2), .val (.int p3), .val (.int p4), .val (.int p5), .val (.int p6), .val (.int l1), .val (.int l2), .val (.int f2), .val (.int g3), .val (.int g4), .val (.int y0), .unset, .unset, .unset, .unset, .unset, .unset, .unset, .unset, .unset, .unset, .unset]) (st := [(.int p5)]) (by rw [hml]; rfl) pd_6 rfl rfl (Nat.le_of_eq rfl) (hb hby at_92) (by decide) (by decide) ?_
        intro v58 T58 X58 e58 hv58
        obtain ⟨g58, rfl, hg58⟩ := hv58
        show Gl p e below _ (T58.setTop (mkF m 95 #[.val (.int p1), .val (.int p2), .val (.int p3), .val (.int p4), .val (.int p5), .val (.int p6), .val (.int l1), .val (.int l2), .val (.int f2), .val (.int g3), .val (.int g4), .val (.int y0), .unset, .unset, .unset, .unset, .unset, .unset, .unset, .unset, .unset, .unset, .unset] [(.int g58)]))
        exact J95 _ X58 e58 _ hg58
      · refine Gl.of (fun _ kq_ => XS.ifNo X5.here hx rfl (hb hby at_82) rfl ((if0 _ _).trans (feq hc82_57).1) kq_) ?_
        show Gl p e below _ (T5.setTop (mkF m 85 #[.val (.int p1), .val (.int p2), .val (.int p3), .val (.int p4), .val (.int p5), .val (.int p6), .val (.int l1), .val (.int l2), .val (.int f2), .val (.int g3), .val (.int g4), .val (.int y0), .unset, .unset, .unset, .unset, .unset, .unset, .unset, .unset, .unset, .unset, .unset] []))
        refine Gl.of (fun _ kq_ => XS.iload X5.here hx rfl (hb hby at_85) rfl kq_) ?_
        show Gl p e below _ (T5.setTop (mkF m 87 #[.val (.int p1), .val (.int p2), .val (.int p3), .val (.int p4), .val (.int p5), .val (.int p6), .val (.int l1), .val (.int l2), .val (.int f2), .val (.int g3), .val (.int g4), .val (.int y0), .unset, .unset, .unset, .unset, .unset, .unset, .unset, .unset, .unset, .unset, .unset] [(.int g3)]))
        refine Gl.of (fun _ kq_ => XS.goto X5.here hx rfl (pc0 := 87) (pc' := 95) rfl (hb hby at_87) (by decide) (by decide) kq_) ?_
        show Gl p e below _ (T5.setTop (mkF m 95 #[.val (.int p1), .val (.int p2), .val (.int p3), .val (.int p4), .val (.int p5), .val (.int p6), .val (.int l1), .val (.int l2), .val (.int f2), .val (.int g3), .val (.int g4), .val (.int y0), .unset, .unset, .unset, .unset, .unset, .unset, .unset, .unset, .unset, .unset, .unset] [(.int g3)]))
        exact J95 _ X5 e5 _ hg3
    show Gl p e below _ (T4.setTop (mkF m 56 #[.val (.int p1), .val (.int p2), .val (.int p3), .val (.int p4), .val (.int p5), .val (.int p6), .val (.int l1), .val (.int l2), .val (.int f2), .val (.int g3), .val (.int g4), .unset, .unset, .unset, .unset, .unset, .unset, .unset, .unset, .unset, .unset, .unset, .unset] []))
    refine Gl.of (fun _ kq_ => XS.iload X4.here hx rfl (hb hby at_56) rfl kq_) ?_
    show Gl p e below _ (T4.setTop (mkF m 58 #[.val (.int p1), .val (.int p2), .val (.int p3), .val (.int p4), .val (.int p5), .val (.int p6), .val (.int l1), .val (.int l2), .val (.int f2), .val (.int g3), .val (.int g4), .unset, .unset, .unset, .unset, .unset, .unset, .unset, .unset, .unset, .unset, .unset, .unset] [(.int p6)]))
    refine Gl.of (fun _ kq_ => XS.iconst X4.here hx rfl (hb hby at_58) kq_) ?_
    show Gl p e below _ (T4.setTop (mkF m 59 #[.val (.int p1), .val (.int p2), .val (.int p3), .val (.int p4), .val (.int p5), .val (.int p6), .val (.int l1), .val (.int l2), .val (.int f2), .val (.int g3), .val (.int g4), .unset, .unset, .unset, .unset, .unset, .unset, .unset, .unset, .unset, .unset, .unset, .unset] [(.int (4 : Int32)), (.int p6)]))
    refine Gl.of (fun _ kq_ => XS.iushr X4.here hx rfl (hb hby at_59) rfl kq_) ?_
    show Gl p e below _ (T4.setTop (mkF m 60 #[.val (.int p1), .val (.int p2), .val (.int p3), .val (.int p4), .val (.int p5), .val (.int p6), .val (.int l1), .val (.int l2), .val (.int f2), .val (.int g3), .val (.int g4), .unset, .unset, .unset, .unset, .unset, .unset, .unset, .unset, .unset, .unset, .unset, .unset] [(.int ((p6.toUInt32 >>> ((4 : Int32) &&& 31).toUInt32).toInt32))]))
    refine Gl.of (fun _ kq_ => XS.iconst X4.here hx rfl (hb hby at_60) kq_) ?_
    show Gl p e below _ (T4.setTop (mkF m 61 #[.val (.int p1), .val (.int p2), .val (.int p3), .val (.int p4), .val (.int p5), .val (.int p6), .val (.int l1), .val (.int l2), .val (.int f2), .val (.int g3), .val (.int g4), .unset, .unset, .unset, .unset, .unset, .unset, .unset, .unset, .unset, .unset, .unset, .unset] [(.int (1 : Int32)), (.int ((p6.toUInt32 >>> ((4 : Int32) &&& 31).toUInt32).toInt32))]))
    refine Gl.of (fun _ kq_ => XS.iand X4.here hx rfl (hb hby at_61) rfl kq_) ?_
    show Gl p e below _ (T4.setTop (mkF m 62 #[.val (.int p1), .val (.int p2), .val (.int p3), .val (.int p4), .val (.int p5), .val (.int p6), .val (.int l1), .val (.int l2), .val (.int f2), .val (.int g3), .val (.int g4), .unset, .unset, .unset, .unset, .unset, .unset, .unset, .unset, .unset, .unset, .unset, .unset] [(.int (((p6.toUInt32 >>> ((4 : Int32) &&& 31).toUInt32).toInt32) &&& (1 : Int32)))]))
    by_cases hc62_59 : (((p6.toUInt32 >>> ((4 : Int32) &&& 31).toUInt32).toInt32) &&& (1 : Int32)) = (0 : Int32)
    · refine Gl.of (fun _ kq_ => XS.ifYes X4.here hx rfl (pc0 := 62) (pc' := 70) rfl (hb hby at_62) rfl ((if0 _ _).trans (teq hc62_59).1) (by decide) (by decide) kq_) ?_
      show Gl p e below _ (T4.setTop (mkF m 70 #[.val (.int p1), .val (.int p2), .val (.int p3), .val (.int p4), .val (.int p5), .val (.int p6), .val (.int l1), .val (.int l2), .val (.int f2), .val (.int g3), .val (.int g4), .unset, .unset, .unset, .unset, .unset, .unset, .unset, .unset, .unset, .unset, .unset, .unset] []))
      refine Gl.of (fun _ kq_ => XS.iloadN X4.here hx rfl (hb hby at_70) rfl kq_) ?_
      show Gl p e below _ (T4.setTop (mkF m 71 #[.val (.int p1), .val (.int p2), .val (.int p3), .val (.int p4), .val (.int p5), .val (.int p6), .val (.int l1), .val (.int l2), .val (.int f2), .val (.int g3), .val (.int g4), .unset, .unset, .unset, .unset, .unset, .unset, .unset, .unset, .unset, .unset, .unset, .unset] [(.int p4)]))
      refine Gl.callS0 X4 hx hZ (y := (⟨"com/example/schenley/schenley/IdentifierEqualsPinLaw", "firstPlain", "(I)C"⟩ : MethodName)) hown (w0 hw) (w1 hw) (w2 hw) (w3 hw) (desc_ne (by decide)) (argsL := [(.int p4)]) (rest := []) (rm1 l Z a0 hw _ p4) 0 (by decide) (by decide) e4 (pc := 71) (Ls := #[.val (.int p1), .val (.int p2), .val (.int p3), .val (.int p4), .val (.int p5), .val (.int p6), .val (.int l1), .val (.int l2), .val (.int f2), .val (.int g3), .val (.int g4), .unset, .unset, .unset, .unset, .unset, .unset, .unset, .unset, .unset, .unset, .unset, .unset]) (st := [(.int p4)]) (by rw [hml]; rfl) pd_6 rfl rfl (Nat.le_of_eq rfl) (hb hby at_71) (by decide) (by decide) ?_
      intro v60 T60 X60 e60 hv60
      obtain ⟨f60, rfl, hf60⟩ := hv60
      show Gl p e below _ (T60.setTop (mkF m 74 #[.val (.int p1), .val (.int p2), .val (.int p3), .val (.int p4), .val (.int p5), .val (.int p6), .val (.int l1), .val (.int l2), .val (.int f2), .val (.int g3), .val (.int g4), .unset, .unset, .unset, .unset, .unset, .unset, .unset, .unset, .unset, .unset, .unset, .unset] [(.int f60)]))
      exact J74 _ X60 e60 _ hf60
    · refine Gl.of (fun _ kq_ => XS.ifNo X4.here hx rfl (hb hby at_62) rfl ((if0 _ _).trans (feq hc62_59).1) kq_) ?_
      show Gl p e below _ (T4.setTop (mkF m 65 #[.val (.int p1), .val (.int p2), .val (.int p3), .val (.int p4), .val (.int p5), .val (.int p6), .val (.int l1), .val (.int l2), .val (.int f2), .val (.int g3), .val (.int g4), .unset, .unset, .unset, .unset, .unset, .unset, .unset, .unset, .unset, .unset, .unset, .unset] []))
      refine Gl.of (fun _ kq_ => XS.iload X4.here hx rfl (hb hby at_65) rfl kq_) ?_
      show Gl p e below _ (T4.setTop (mkF m 67 #[.val (.int p1), .val (.int p2), .val (.int p3), .val (.int p4), .val (.int p5), .val (.int p6), .val (.int l1), .val (.int l2), .val (.int f2), .val (.int g3), .val (.int g4), .unset, .unset, .unset, .unset, .unset, .unset, .unset, .unset, .unset, .unset, .unset, .unset] [(.int f2)]))
      refine Gl.of (fun _ kq_ => XS.goto X4.here hx rfl (pc0 := 67) (pc' := 74) rfl (hb hby at_67) (by decide) (by decide) kq_) ?_
      show Gl p e below _ (T4.setTop (mkF m 74 #[.val (.int p1), .val (.int p2), .val (.int p3), .val (.int p4), .val (.int p5), .val (.int p6), .val (.int l1), .val (.int l2), .val (.int f2), .val (.int g3), .val (.int g4), .unset, .unset, .unset, .unset, .unset, .unset, .unset, .unset, .unset, .unset, .unset, .unset] [(.int f2)]))
      exact J74 _ X4 e4 _ hf2
  show Gl p e below _ (s₁.setTop (mkF m 10 #[.val (.int p1), .val (.int p2), .val (.int p3), .val (.int p4), .val (.int p5), .val (.int p6), .val (.int l1), .unset, .unset, .unset, .unset, .unset, .unset, .unset, .unset, .unset, .unset, .unset, .unset, .unset, .unset, .unset, .unset] []))
  refine Gl.of (fun _ kq_ => XS.iload X0.here hx rfl (hb hby at_10) rfl kq_) ?_
  show Gl p e below _ (s₁.setTop (mkF m 12 #[.val (.int p1), .val (.int p2), .val (.int p3), .val (.int p4), .val (.int p5), .val (.int p6), .val (.int l1), .unset, .unset, .unset, .unset, .unset, .unset, .unset, .unset, .unset, .unset, .unset, .unset, .unset, .unset, .unset, .unset] [(.int p6)]))
  refine Gl.of (fun _ kq_ => XS.bipush X0.here hx rfl (hb hby at_12) kq_) ?_
  show Gl p e below _ (s₁.setTop (mkF m 14 #[.val (.int p1), .val (.int p2), .val (.int p3), .val (.int p4), .val (.int p5), .val (.int p6), .val (.int l1), .unset, .unset, .unset, .unset, .unset, .unset, .unset, .unset, .unset, .unset, .unset, .unset, .unset, .unset, .unset, .unset] [(.int (7 : Int32)), (.int p6)]))
  refine Gl.of (fun _ kq_ => XS.iushr X0.here hx rfl (hb hby at_14) rfl kq_) ?_
  show Gl p e below _ (s₁.setTop (mkF m 15 #[.val (.int p1), .val (.int p2), .val (.int p3), .val (.int p4), .val (.int p5), .val (.int p6), .val (.int l1), .unset, .unset, .unset, .unset, .unset, .unset, .unset, .unset, .unset, .unset, .unset, .unset, .unset, .unset, .unset, .unset] [(.int ((p6.toUInt32 >>> ((7 : Int32) &&& 31).toUInt32).toInt32))]))
  refine Gl.of (fun _ kq_ => XS.iconst X0.here hx rfl (hb hby at_15) kq_) ?_
  show Gl p e below _ (s₁.setTop (mkF m 16 #[.val (.int p1), .val (.int p2), .val (.int p3), .val (.int p4), .val (.int p5), .val (.int p6), .val (.int l1), .unset, .unset, .unset, .unset, .unset, .unset, .unset, .unset, .unset, .unset, .unset, .unset, .unset, .unset, .unset, .unset] [(.int (1 : Int32)), (.int ((p6.toUInt32 >>> ((7 : Int32) &&& 31).toUInt32).toInt32))]))
  refine Gl.of (fun _ kq_ => XS.iand X0.here hx rfl (hb hby at_16) rfl kq_) ?_
  show Gl p e below _ (s₁.setTop (mkF m 17 #[.val (.int p1), .val (.int p2), .val (.int p3), .val (.int p4), .val (.int p5), .val (.int p6), .val (.int l1), .unset, .unset, .unset, .unset, .unset, .unset, .unset, .unset, .unset, .unset, .unset, .unset, .unset, .unset, .unset, .unset] [(.int (((p6.toUInt32 >>> ((7 : Int32) &&& 31).toUInt32).toInt32) &&& (1 : Int32)))]))
  by_cases hc17_61 : (((p6.toUInt32 >>> ((7 : Int32) &&& 31).toUInt32).toInt32) &&& (1 : Int32)) = (0 : Int32)
  · refine Gl.of (fun _ kq_ => XS.ifYes X0.here hx rfl (pc0 := 17) (pc' := 25) rfl (hb hby at_17) rfl ((if0 _ _).trans (teq hc17_61).1) (by decide) (by decide) kq_) ?_
    show Gl p e below _ (s₁.setTop (mkF m 25 #[.val (.int p1), .val (.int p2), .val (.int p3), .val (.int p4), .val (.int p5), .val (.int p6), .val (.int l1), .unset, .unset, .unset, .unset, .unset, .unset, .unset, .unset, .unset, .unset, .unset, .unset, .unset, .unset, .unset, .unset] []))
    refine Gl.of (fun _ kq_ => XS.iconst X0.here hx rfl (hb hby at_25) kq_) ?_
    show Gl p e below _ (s₁.setTop (mkF m 26 #[.val (.int p1), .val (.int p2), .val (.int p3), .val (.int p4), .val (.int p5), .val (.int p6), .val (.int l1), .unset, .unset, .unset, .unset, .unset, .unset, .unset, .unset, .unset, .unset, .unset, .unset, .unset, .unset, .unset, .unset] [(.int (1 : Int32))]))
    refine Gl.of (fun _ kq_ => XS.iload X0.here hx rfl (hb hby at_26) rfl kq_) ?_
    show Gl p e below _ (s₁.setTop (mkF m 28 #[.val (.int p1), .val (.int p2), .val (.int p3), .val (.int p4), .val (.int p5), .val (.int p6), .val (.int l1), .unset, .unset, .unset, .unset, .unset, .unset, .unset, .unset, .unset, .unset, .unset, .unset, .unset, .unset, .unset, .unset] [(.int p6), (.int (1 : Int32))]))
    refine Gl.of (fun _ kq_ => XS.bipush X0.here hx rfl (hb hby at_28) kq_) ?_
    show Gl p e below _ (s₁.setTop (mkF m 30 #[.val (.int p1), .val (.int p2), .val (.int p3), .val (.int p4), .val (.int p5), .val (.int p6), .val (.int l1), .unset, .unset, .unset, .unset, .unset, .unset, .unset, .unset, .unset, .unset, .unset, .unset, .unset, .unset, .unset, .unset] [(.int (8 : Int32)), (.int p6), (.int (1 : Int32))]))
    refine Gl.of (fun _ kq_ => XS.iushr X0.here hx rfl (hb hby at_30) rfl kq_) ?_
    show Gl p e below _ (s₁.setTop (mkF m 31 #[.val (.int p1), .val (.int p2), .val (.int p3), .val (.int p4), .val (.int p5), .val (.int p6), .val (.int l1), .unset, .unset, .unset, .unset, .unset, .unset, .unset, .unset, .unset, .unset, .unset, .unset, .unset, .unset, .unset, .unset] [(.int ((p6.toUInt32 >>> ((8 : Int32) &&& 31).toUInt32).toInt32)), (.int (1 : Int32))]))
    refine Gl.of (fun _ kq_ => XS.iconst X0.here hx rfl (hb hby at_31) kq_) ?_
    show Gl p e below _ (s₁.setTop (mkF m 32 #[.val (.int p1), .val (.int p2), .val (.int p3), .val (.int p4), .val (.int p5), .val (.int p6), .val (.int l1), .unset, .unset, .unset, .unset, .unset, .unset, .unset, .unset, .unset, .unset, .unset, .unset, .unset, .unset, .unset, .unset] [(.int (3 : Int32)), (.int ((p6.toUInt32 >>> ((8 : Int32) &&& 31).toUInt32).toInt32)), (.int (1 : Int32))]))
    refine Gl.of (fun _ kq_ => XS.iand X0.here hx rfl (hb hby at_32) rfl kq_) ?_
    show Gl p e below _ (s₁.setTop (mkF m 33 #[.val (.int p1), .val (.int p2), .val (.int p3), .val (.int p4), .val (.int p5), .val (.int p6), .val (.int l1), .unset, .unset, .unset, .unset, .unset, .unset, .unset, .unset, .unset, .unset, .unset, .unset, .unset, .unset, .unset, .unset] [(.int (((p6.toUInt32 >>> ((8 : Int32) &&& 31).toUInt32).toInt32) &&& (3 : Int32))), (.int (1 : Int32))]))
    refine Gl.of (fun _ kq_ => XS.iconst X0.here hx rfl (hb hby at_33) kq_) ?_
    show Gl p e below _ (s₁.setTop (mkF m 34 #[.val (.int p1), .val (.int p2), .val (.int p3), .val (.int p4), .val (.int p5), .val (.int p6), .val (.int l1), .unset, .unset, .unset, .unset, .unset, .unset, .unset, .unset, .unset, .unset, .unset, .unset, .unset, .unset, .unset, .unset] [(.int (3 : Int32)), (.int (((p6.toUInt32 >>> ((8 : Int32) &&& 31).toUInt32).toInt32) &&& (3 : Int32))), (.int (1 : Int32))]))
    refine Gl.of (fun _ kq_ => iremM X0 hx rfl (hb hby at_34) rfl (by decide) kq_) ?_
    show Gl p e below _ (s₁.setTop (mkF m 35 #[.val (.int p1), .val (.int p2), .val (.int p3), .val (.int p4), .val (.int p5), .val (.int p6), .val (.int l1), .unset, .unset, .unset, .unset, .unset, .unset, .unset, .unset, .unset, .unset, .unset, .unset, .unset, .unset, .unset, .unset] [(.int ((((p6.toUInt32 >>> ((8 : Int32) &&& 31).toUInt32).toInt32) &&& (3 : Int32)) % (3 : Int32))), (.int (1 : Int32))]))
    refine Gl.of (fun _ kq_ => XS.iadd X0.here hx rfl (hb hby at_35) rfl kq_) ?_
    show Gl p e below _ (s₁.setTop (mkF m 36 #[.val (.int p1), .val (.int p2), .val (.int p3), .val (.int p4), .val (.int p5), .val (.int p6), .val (.int l1), .unset, .unset, .unset, .unset, .unset, .unset, .unset, .unset, .unset, .unset, .unset, .unset, .unset, .unset, .unset, .unset] [(.int ((1 : Int32) + ((((p6.toUInt32 >>> ((8 : Int32) &&& 31).toUInt32).toInt32) &&& (3 : Int32)) % (3 : Int32))))]))
    exact J36 _ X0 e0 _ (own_l3 _)
  · refine Gl.of (fun _ kq_ => XS.ifNo X0.here hx rfl (hb hby at_17) rfl ((if0 _ _).trans (feq hc17_61).1) kq_) ?_
    show Gl p e below _ (s₁.setTop (mkF m 20 #[.val (.int p1), .val (.int p2), .val (.int p3), .val (.int p4), .val (.int p5), .val (.int p6), .val (.int l1), .unset, .unset, .unset, .unset, .unset, .unset, .unset, .unset, .unset, .unset, .unset, .unset, .unset, .unset, .unset, .unset] []))
    refine Gl.of (fun _ kq_ => XS.iload X0.here hx rfl (hb hby at_20) rfl kq_) ?_
    show Gl p e below _ (s₁.setTop (mkF m 22 #[.val (.int p1), .val (.int p2), .val (.int p3), .val (.int p4), .val (.int p5), .val (.int p6), .val (.int l1), .unset, .unset, .unset, .unset, .unset, .unset, .unset, .unset, .unset, .unset, .unset, .unset, .unset, .unset, .unset, .unset] [(.int l1)]))
    refine Gl.of (fun _ kq_ => XS.goto X0.here hx rfl (pc0 := 22) (pc' := 36) rfl (hb hby at_22) (by decide) (by decide) kq_) ?_
    show Gl p e below _ (s₁.setTop (mkF m 36 #[.val (.int p1), .val (.int p2), .val (.int p3), .val (.int p4), .val (.int p5), .val (.int p6), .val (.int l1), .unset, .unset, .unset, .unset, .unset, .unset, .unset, .unset, .unset, .unset, .unset, .unset, .unset, .unset, .unset, .unset] [(.int l1)]))
    exact J36 _ X0 e0 _ hl1
set_option maxRecDepth 65536 in
set_option maxHeartbeats 40000000 in
theorem comes_1 {Post : Tables → Env → Array Value → State → Outcome → State → Prop} (hpost : ∀ tb e args s v u, (limb_1_1.after args s (.returned v) u = true ∧ limb_1_2.after args s (.returned v) u = true ∧ True) → ReturnedEndW s (.returned v) u (Jvm.fieldLocs frame_1_writes args s ++ Jvm.arrayLocs frame_1_arrays args s ++ Jvm.staticLocs frame_1_statics s) 32 1152 → Post tb e args s (.returned v) u) :
    ArmFor flags0 classFile x code maxLocals ret World_1 tables_1 room_1 Calls_1 rest_1 Pre_1 Post := by
  intro l hfl _ _ p e ha hc hk s m args below hf hA hF happ hP
  obtain ⟨hcalls, hrest, hpre⟩ := hP
  obtain ⟨-, -, -, hnamed, -, -, -, hat⟩ := (Spec.applies_iff hf).mp happ
  obtain ⟨hg, hn⟩ := and_e (Cond.before_iff.mp (show (Jvm.Cond.and given_1 narrow_1).before args s = true from hpre))
  obtain ⟨g_c, q_g_c⟩ := and_e hg
  obtain ⟨g_0, q_g_0⟩ := and_e q_g_c
  obtain ⟨g_1, q_g_1⟩ := and_e q_g_0
  obtain ⟨g_2, q_g_2⟩ := and_e q_g_1
  obtain ⟨g_3, q_g_3⟩ := and_e q_g_2
  obtain ⟨g_4, q_g_4⟩ := and_e q_g_3
  have g_5 := q_g_4
  obtain ⟨w_0, w_1, w_2, w_3, w_4, w_5, rfl⟩ : ∃ w_0 w_1 w_2 w_3 w_4 w_5 : Value, args = #[w_0, w_1, w_2, w_3, w_4, w_5] := by
    have hs : args.size = 6 := by simpa [Cond.value, given_1] using g_c
    obtain ⟨L⟩ := args
    match L, hs with
    | [w_0, w_1, w_2, w_3, w_4, w_5], _ => exact ⟨w_0, w_1, w_2, w_3, w_4, w_5, rfl⟩
  have hw := fun d (hd : d ∈ tables_1) => atoms_spec (ws := Jvm.Cond.code x code maxLocals ret :: tables_1) hat d (List.mem_cons_of_mem _ hd)
  have hfit : Fit s := fun {y c} hc i hi => by
    obtain ⟨ha, rfl⟩ := Array.getElem?_eq_some_iff.mp hc
    have q := List.all_eq_true.mp ((Array.all_eq_true_iff_forall_mem.mp hF) _ (Array.getElem_mem ha)) i (List.mem_range.mpr hi)
    simpa [Array.getElem?_eq_getElem hi] using q
  obtain ⟨p1, ei0⟩ := is_v g_0
  obtain rfl : w_0 = (.int p1) := Option.some.inj ei0
  obtain ⟨p2, ei1⟩ := is_v g_1
  obtain rfl : w_1 = (.int p2) := Option.some.inj ei1
  obtain ⟨p3, ei2⟩ := is_v g_2
  obtain rfl : w_2 = (.int p3) := Option.some.inj ei2
  obtain ⟨p4, ei3⟩ := is_v g_3
  obtain rfl : w_3 = (.int p4) := Option.some.inj ei3
  obtain ⟨p5, ei4⟩ := is_v g_4
  obtain rfl : w_4 = (.int p5) := Option.some.inj ei4
  obtain ⟨p6, ei5⟩ := is_v g_5
  obtain rfl : w_5 = (.int p6) := Option.some.inj ei5
  obtain ⟨r0, q_r0⟩ := and_e (Cond.before_iff.mp (show rest_1_c.before _ s = true from hrest))
  obtain ⟨r1, q_r1⟩ := and_e q_r0
  obtain ⟨r2, q_r2⟩ := and_e q_r1
  obtain ⟨r3, q_r3⟩ := and_e q_r2
  obtain ⟨r4, q_r4⟩ := and_e q_r3
  obtain ⟨r5, q_r5⟩ := and_e q_r4
  obtain ⟨r6, q_r6⟩ := and_e q_r5
  obtain ⟨r7, q_r7⟩ := and_e q_r6
  obtain ⟨r8, q_r8⟩ := and_e q_r7
  have r9 := q_r8
  obtain ⟨cz, ecz⟩ := is_v r1
  have SC := Sta.start ecz (Or.inl (Cond.before_iff.mpr r0))
  have hcz : ¬ cz = 0 := gotF (Cond.eq_ints ecz (Term.int_eval _)) (not_v r2)
  obtain ⟨fm, efm, rf⟩ := isR_v r8
  have SF := Sta.start efm (Or.inl (Cond.before_iff.mpr r7))
  obtain ⟨n, o, h1, h2, h3, _, L, rfl, hQ, hq⟩ := rm0 l s _ hw tables_1 s.heap p1 p2 p3 p4 p5 p6 cz fm s.heap.size SC hcz SF rf (Old.start s) p e ha hc hk s m _ below hf ((Spec.applies_iff_loose hf).mp happ).1 ⟨rfl, State.Warmed39.refl s, rfl⟩ trivial
  obtain ⟨rfl, N⟩ := hQ
  exact ⟨n, _, h1, h2, h3, hpost _ _ _ _ _ _ ⟨Cond.after_iff.mpr rfl, Cond.after_iff.mpr (eq_i res_at (Term.int_eval (1)) rfl), trivial⟩ ⟨hq.1, hq.2.1, hq.2.2.1, (hq.2.2.2.sift fun y hy => Or.inr (N y hy)).mono (by decide) (by decide)⟩⟩
theorem main_1_1 : Claimed_1_1 := comes_1 fun _ _ _ _ _ _ h hF => ⟨h.1, hF⟩
theorem main_1_2 : Claimed_1_2 := comes_1 fun _ _ _ _ _ _ h hF => ⟨h.2.1, hF⟩
end Jvm.Pilot.@@N@@
namespace Jvm.Pilot.@@N@@
open Jvm Jvm.ClassFile Sem Op Lib Jvm.Free Jvm.Stand Jvm.Pilot.@@N@@.Jvm.D
/-! MADE BY PROGRAM (witnessworld.py) out of the Statement's table words and the real class files: 22 classes; the members and pool entries that the words name. The judged class is class 1, her method 4. -/
namespace start1
open Jvm.ClassFile
def u (s : String) : CpInfo := .utf8 (stringToUtf16 s)
/-- a pool by its gaps: so many unusable entries, then the entry; so many at the end -/
def gap : Nat → List CpInfo → List CpInfo
  | 0, r => r
  | n + 1, r => .unusable :: gap n r
def poolList (es : List (Nat × CpInfo)) (last : Nat) : List CpInfo := es.foldr (fun e r => gap e.1 (e.2 :: r)) (gap last [])
def pool (es : List (Nat × CpInfo)) (last : Nat) : Array CpInfo := ⟨poolList es last⟩
def fileOf (pool : Array CpInfo) (this : Nat) (attrs : Array Attribute := #[]) (ms : Array MethodInfo := #[]) (fl : Nat := 33) (sup : Nat := 0) (ifs : Array Nat := #[]) (fds : Array FieldInfo := #[]) : ClassFile where
  minorVersion := 0
  majorVersion := 65
  constantPool := pool
  accessFlags := fl
  thisClass := this
  superClass := sup
  interfaces := ifs
  fields := fds
  methods := ms
  attributes := attrs
def plain (name : String) (sup : Option ClassId) : Class where
  name := name
  kind := .ordinary
  loader := none
  accessFlags := 33
  super := sup
  interfaces := #[]
  cf := none
  fields := #[]
  methods := #[]
  instanceTypes := #[]
  staticTypes := #[]
  resolved := #[]
  callSites := []
  init := .initialized
  statics := none
  mirror := none

def pool0 : Array CpInfo := pool [(5, u "<init>"), (0, u "()V"), (1, .class_ 10), (1, u "java/lang/Object")] 113

def k0c0 : Code := { maxStack := 0, maxLocals := 1, code := object_method_1_code, exceptionTable := #[], attributes := #[] }
def k0m0 : Method := { name := "<init>", desc := "()V", sig := { parameters := [], returnType := none }, accessFlags := 1, code := some k0c0 }
/-- java/lang/Object -/
def k0 : Class := { plain "java/lang/Object" none with
  accessFlags := 33
  interfaces := #[]
  cf := some (fileOf pool0 8 #[] #[{ accessFlags := 1, nameIndex := 5, descriptorIndex := 6, attributes := #[] }] 33 0 #[] #[])
  fields := #[]
  methods := #[k0m0]
  instanceTypes := #[]
  staticTypes := #[]
  resolved := Array.replicate 124 none
  statics := none }

def pool1 : Array CpInfo := pool [(2, .class_ 4), (1, u "java/lang/Object"), (0, u "<init>"), (0, u "()V"), (0, .integer 2147483647), (0, .class_ 9), (0, u "java/lang/String"), (0, .methodref 8 11), (0, .nameAndType 5 12), (0, u "([C)V"), (0, .methodref 14 15), (0, .class_ 16), (0, .nameAndType 17 18), (0, u "com/example/schenley/schenley/IdentifierEqualsPinLaw"), (0, u "firstPlain"), (0, u "(I)C"), (0, .methodref 14 20), (0, .nameAndType 21 18), (0, u "anyPlain"), (0, .methodref 14 23), (0, .nameAndType 24 25), (0, u "spell"), (0, u "(ICCC)Ljava/lang/String;"), (0, .class_ 27), (0, u "com/example/schenley/schenley/Identifier"), (0, .methodref 26 29), (0, .nameAndType 5 30), (0, u "(Ljava/lang/String;)V"), (0, .methodref 26 32), (0, .nameAndType 33 34), (0, u "equals"), (0, u "(Ljava/lang/Object;)Z"), (3, u "law"), (0, u "(IIIIII)Z")] 2

def k1m0 : Method := { name := "<init>", desc := "()V", sig := { parameters := [], returnType := none }, accessFlags := 1, code := none }
def k1c1 : Code := { maxStack := 3, maxLocals := 2, code := method_2_code, exceptionTable := #[], attributes := #[] }
def k1m1 : Method := { name := "anyPlain", desc := "(I)C", sig := { parameters := [.int], returnType := some .char }, accessFlags := 10, code := some k1c1 }
def k1c2 : Code := { maxStack := 3, maxLocals := 2, code := method_3_code, exceptionTable := #[], attributes := #[] }
def k1m2 : Method := { name := "firstPlain", desc := "(I)C", sig := { parameters := [.int], returnType := some .char }, accessFlags := 10, code := some k1c2 }
def k1c3 : Code := { maxStack := 6, maxLocals := 4, code := method_4_code, exceptionTable := #[], attributes := #[] }
def k1m3 : Method := { name := "spell", desc := "(ICCC)Ljava/lang/String;", sig := { parameters := [.int, .char, .char, .char], returnType := some (.object "java/lang/String") }, accessFlags := 10, code := some k1c3 }
def k1c4 : Code := { maxStack := 4, maxLocals := 23, code := code, exceptionTable := #[], attributes := #[] }
def k1m4 : Method := { name := "law", desc := "(IIIIII)Z", sig := { parameters := [.int, .int, .int, .int, .int, .int], returnType := some .boolean }, accessFlags := 9, code := some k1c4 }
/-- com/example/schenley/schenley/IdentifierEqualsPinLaw -/
def k1 : Class := { plain "com/example/schenley/schenley/IdentifierEqualsPinLaw" (some 0) with
  accessFlags := 49
  interfaces := #[]
  cf := some (fileOf pool1 14 #[] #[{ accessFlags := 1, nameIndex := 5, descriptorIndex := 6, attributes := #[] }, { accessFlags := 10, nameIndex := 21, descriptorIndex := 18, attributes := #[] }, { accessFlags := 10, nameIndex := 17, descriptorIndex := 18, attributes := #[] }, { accessFlags := 10, nameIndex := 24, descriptorIndex := 25, attributes := #[] }, { accessFlags := 9, nameIndex := 38, descriptorIndex := 39, attributes := #[] }] 49 2 #[] #[])
  fields := #[]
  methods := #[k1m0, k1m1, k1m2, k1m3, k1m4]
  instanceTypes := #[]
  staticTypes := #[]
  resolved := Array.replicate 42 none
  statics := none }

def pool2 : Array CpInfo := pool [(1, .class_ 2), (0, u "java/io/Serializable"), (0, .class_ 4), (0, u "java/lang/Object")] 2

/-- java/io/Serializable -/
def k2 : Class := { plain "java/io/Serializable" (some 0) with
  accessFlags := 1537
  interfaces := #[]
  cf := some (fileOf pool2 1 #[] #[] 1537 3 #[] #[])
  fields := #[]
  methods := #[]
  instanceTypes := #[]
  staticTypes := #[]
  resolved := Array.replicate 7 none
  statics := none }

def pool3 : Array CpInfo := pool [(1, .class_ 2), (0, u "java/lang/Comparable"), (0, .class_ 4), (0, u "java/lang/Object")] 7

/-- java/lang/Comparable -/
def k3 : Class := { plain "java/lang/Comparable" (some 0) with
  accessFlags := 1537
  interfaces := #[]
  cf := some (fileOf pool3 1 #[] #[] 1537 3 #[] #[])
  fields := #[]
  methods := #[]
  instanceTypes := #[]
  staticTypes := #[]
  resolved := Array.replicate 12 none
  statics := none }

def pool4 : Array CpInfo := pool [(2, .class_ 4), (1, u "java/lang/CharSequence"), (42, .class_ 48), (0, u "java/lang/CharSequence$1CodePointIterator"), (10, .class_ 60), (0, u "java/lang/CharSequence$1CharIterator"), (5, .class_ 67), (0, u "java/lang/Object")] 63

/-- java/lang/CharSequence -/
def k4 : Class := { plain "java/lang/CharSequence" (some 0) with
  accessFlags := 1537
  interfaces := #[]
  cf := some (fileOf pool4 2 #[.nestMembers #[47, 59]] #[] 1537 66 #[] #[])
  fields := #[]
  methods := #[]
  instanceTypes := #[]
  staticTypes := #[]
  resolved := Array.replicate 131 none
  statics := none }

def pool5 : Array CpInfo := pool [(1, .class_ 2), (0, u "java/lang/constant/Constable"), (0, .class_ 4), (0, u "java/lang/Object")] 6

/-- java/lang/constant/Constable -/
def k5 : Class := { plain "java/lang/constant/Constable" (some 0) with
  accessFlags := 1537
  interfaces := #[]
  cf := some (fileOf pool5 1 #[] #[] 1537 3 #[] #[])
  fields := #[]
  methods := #[]
  instanceTypes := #[]
  staticTypes := #[]
  resolved := Array.replicate 11 none
  statics := none }

def pool6 : Array CpInfo := pool [(1, .class_ 2), (0, u "java/lang/constant/ConstantDesc"), (0, .class_ 4), (0, u "java/lang/Object")] 32

/-- java/lang/constant/ConstantDesc -/
def k6 : Class := { plain "java/lang/constant/ConstantDesc" (some 0) with
  accessFlags := 1537
  interfaces := #[]
  cf := some (fileOf pool6 1 #[] #[] 1537 3 #[] #[])
  fields := #[]
  methods := #[]
  instanceTypes := #[]
  staticTypes := #[]
  resolved := Array.replicate 37 none
  statics := none }

def pool7 : Array CpInfo := pool [(1, .methodref 2 3), (0, .class_ 4), (0, .nameAndType 5 6), (0, u "java/lang/Object"), (0, u "<init>"), (0, u "()V"), (2, .fieldref 10 11), (0, .class_ 12), (0, .nameAndType 13 14), (0, u "java/lang/String"), (0, u "value"), (0, u "[B"), (0, .fieldref 10 16), (0, .nameAndType 17 18), (0, u "coder"), (0, u "B"), (2, u "hash"), (0, u "I"), (2, u "hashIsZero"), (0, u "Z"), (0, .methodref 10 28), (0, .nameAndType 5 29), (0, u "([CIILjava/lang/Void;)V"), (8, .fieldref 10 39), (0, .nameAndType 40 26), (0, u "COMPACT_STRINGS"), (1, .class_ 44), (1, u "java/lang/StringUTF16"), (0, u "compress"), (1, .methodref 42 48), (0, .nameAndType 49 50), (0, u "coderFromArrayLen"), (0, u "([BI)B"), (56, .class_ 109), (1, u "java/lang/StringLatin1"), (32, u "()Z"), (34, .methodref 42 178), (0, .nameAndType 45 179), (0, u "([CII)[B"), (154, u "()I"), (0, .methodref 10 336), (0, .nameAndType 17 337), (0, u "()B"), (25, u "([BI)C"), (27, u "(II)V"), (35, u "(I)C"), (64, .methodref 10 493), (0, .nameAndType 494 142), (0, u "isLatin1"), (0, .methodref 107 496), (0, .nameAndType 497 363), (0, u "charAt"), (3, u "checkIndex"), (5, u "length"), (33, .methodref 107 542), (0, .nameAndType 543 544), (0, u "equals"), (0, u "([B[B)Z"), (28, u "(Ljava/lang/Object;)Z"), (1, .class_ 576), (0, u "java/lang/CharSequence"), (22, u "CASE_INSENSITIVE_ORDER"), (0, u "Ljava/util/Comparator;"), (91, u "isEmpty"), (317, u "([C)V"), (42, .fieldref 1054 1055), (0, .class_ 1056), (0, .nameAndType 1057 1058), (0, u "jdk/internal/util/Preconditions"), (0, u "SIOOBE_FORMATTER"), (0, u "Ljava/util/function/BiFunction;"), (0, .methodref 1054 1060), (0, .nameAndType 501 1061), (0, u "(IILjava/util/function/BiFunction;)I"), (39, u "serialPersistentFields"), (0, u "[Ljava/io/ObjectStreamField;"), (0, .class_ 1104), (0, u "java/lang/String$CaseInsensitiveComparator"), (1, .class_ 1107), (0, u "java/io/Serializable"), (0, .class_ 1109), (0, u "java/lang/Comparable"), (0, .class_ 1111), (0, u "java/lang/constant/Constable"), (0, .class_ 1113), (0, u "java/lang/constant/ConstantDesc"), (2, u "serialVersionUID"), (0, u "J"), (3, u "REPL"), (0, u "C"), (2, u "LATIN1"), (1, u "UTF16")] 323

def k7m0 : Method := { name := "<init>", desc := "()V", sig := { parameters := [], returnType := none }, accessFlags := 1, code := none }
def k7c1 : Code := { maxStack := 5, maxLocals := 2, code := jdk_42_method_3_code, exceptionTable := #[], attributes := #[] }
def k7m1 : Method := { name := "<init>", desc := "([C)V", sig := { parameters := [(.array .char)], returnType := none }, accessFlags := 1, code := some k7c1 }
def k7c2 : Code := { maxStack := 2, maxLocals := 1, code := jdk_42_method_54_code, exceptionTable := #[], attributes := #[] }
def k7m2 : Method := { name := "length", desc := "()I", sig := { parameters := [], returnType := some .int }, accessFlags := 1, code := some k7c2 }
def k7c3 : Code := { maxStack := 1, maxLocals := 1, code := jdk_42_method_55_code, exceptionTable := #[], attributes := #[] }
def k7m3 : Method := { name := "isEmpty", desc := "()Z", sig := { parameters := [], returnType := some .boolean }, accessFlags := 1, code := some k7c3 }
def k7c4 : Code := { maxStack := 2, maxLocals := 2, code := jdk_42_method_56_code, exceptionTable := #[], attributes := #[] }
def k7m4 : Method := { name := "charAt", desc := "(I)C", sig := { parameters := [.int], returnType := some .char }, accessFlags := 1, code := some k7c4 }
def k7c5 : Code := { maxStack := 2, maxLocals := 3, code := jdk_42_method_66_code, exceptionTable := #[], attributes := #[] }
def k7m5 : Method := { name := "equals", desc := "(Ljava/lang/Object;)Z", sig := { parameters := [(.object "java/lang/Object")], returnType := some .boolean }, accessFlags := 1, code := some k7c5 }
def k7c6 : Code := { maxStack := 4, maxLocals := 6, code := jdk_42_method_149_code, exceptionTable := #[], attributes := #[] }
def k7m6 : Method := { name := "<init>", desc := "([CIILjava/lang/Void;)V", sig := { parameters := [(.array .char), .int, .int, (.object "java/lang/Void")], returnType := none }, accessFlags := 2, code := some k7c6 }
def k7c7 : Code := { maxStack := 1, maxLocals := 1, code := jdk_42_method_152_code, exceptionTable := #[], attributes := #[] }
def k7m7 : Method := { name := "coder", desc := "()B", sig := { parameters := [], returnType := some .byte }, accessFlags := 0, code := some k7c7 }
def k7c8 : Code := { maxStack := 1, maxLocals := 1, code := jdk_42_method_154_code, exceptionTable := #[], attributes := #[] }
def k7m8 : Method := { name := "isLatin1", desc := "()Z", sig := { parameters := [], returnType := some .boolean }, accessFlags := 0, code := some k7c8 }
def k7c9 : Code := { maxStack := 3, maxLocals := 2, code := jdk_42_method_155_code, exceptionTable := #[], attributes := #[] }
def k7m9 : Method := { name := "checkIndex", desc := "(II)V", sig := { parameters := [.int, .int], returnType := none }, accessFlags := 8, code := some k7c9 }
/-- java/lang/String -/
def k7 : Class := { plain "java/lang/String" (some 0) with
  accessFlags := 49
  interfaces := #[2, 3, 4, 5, 6]
  cf := some (fileOf pool7 10 #[.nestMembers #[1103]] #[{ accessFlags := 1, nameIndex := 5, descriptorIndex := 6, attributes := #[] }, { accessFlags := 1, nameIndex := 5, descriptorIndex := 1010, attributes := #[] }, { accessFlags := 1, nameIndex := 507, descriptorIndex := 334, attributes := #[] }, { accessFlags := 1, nameIndex := 692, descriptorIndex := 142, attributes := #[] }, { accessFlags := 1, nameIndex := 497, descriptorIndex := 427, attributes := #[] }, { accessFlags := 1, nameIndex := 543, descriptorIndex := 573, attributes := #[] }, { accessFlags := 2, nameIndex := 5, descriptorIndex := 29, attributes := #[] }, { accessFlags := 0, nameIndex := 17, descriptorIndex := 337, attributes := #[] }, { accessFlags := 0, nameIndex := 494, descriptorIndex := 142, attributes := #[] }, { accessFlags := 8, nameIndex := 501, descriptorIndex := 391, attributes := #[] }] 49 2 #[1106, 1108, 575, 1110, 1112] #[{ accessFlags := 18, nameIndex := 13, descriptorIndex := 14, attributes := #[] }, { accessFlags := 18, nameIndex := 17, descriptorIndex := 18, attributes := #[] }, { accessFlags := 2, nameIndex := 21, descriptorIndex := 22, attributes := #[] }, { accessFlags := 2, nameIndex := 25, descriptorIndex := 26, attributes := #[] }, { accessFlags := 26, nameIndex := 1116, descriptorIndex := 1117, attributes := #[] }, { accessFlags := 24, nameIndex := 40, descriptorIndex := 26, attributes := #[] }, { accessFlags := 26, nameIndex := 1101, descriptorIndex := 1102, attributes := #[] }, { accessFlags := 26, nameIndex := 1121, descriptorIndex := 1122, attributes := #[] }, { accessFlags := 25, nameIndex := 599, descriptorIndex := 600, attributes := #[] }, { accessFlags := 24, nameIndex := 1125, descriptorIndex := 18, attributes := #[] }, { accessFlags := 24, nameIndex := 1127, descriptorIndex := 18, attributes := #[] }])
  fields := #[{ name := "value", type := (.array .byte), accessFlags := 18, slot := 0, constantValue := 0 }, { name := "coder", type := .byte, accessFlags := 18, slot := 1, constantValue := 0 }, { name := "hash", type := .int, accessFlags := 2, slot := 2, constantValue := 0 }, { name := "hashIsZero", type := .boolean, accessFlags := 2, slot := 3, constantValue := 0 }, { name := "serialVersionUID", type := .long, accessFlags := 26, slot := 0, constantValue := 0 }, { name := "COMPACT_STRINGS", type := .boolean, accessFlags := 24, slot := 1, constantValue := 0 }, { name := "serialPersistentFields", type := (.array (.object "java/io/ObjectStreamField")), accessFlags := 26, slot := 2, constantValue := 0 }, { name := "REPL", type := .char, accessFlags := 26, slot := 3, constantValue := 0 }, { name := "CASE_INSENSITIVE_ORDER", type := (.object "java/util/Comparator"), accessFlags := 25, slot := 4, constantValue := 0 }, { name := "LATIN1", type := .byte, accessFlags := 24, slot := 5, constantValue := 0 }, { name := "UTF16", type := .byte, accessFlags := 24, slot := 6, constantValue := 0 }]
  methods := #[k7m0, k7m1, k7m2, k7m3, k7m4, k7m5, k7m6, k7m7, k7m8, k7m9]
  instanceTypes := #[(.array .byte), .byte, .int, .boolean]
  staticTypes := #[.long, .boolean, (.array (.object "java/io/ObjectStreamField")), .char, (.object "java/util/Comparator"), .byte, .byte]
  resolved := Array.replicate 1451 none
  statics := some 0 }

def pool8 : Array CpInfo := pool [(6, .class_ 8), (1, u "java/lang/Object"), (0, u "<init>"), (0, u "()V"), (1, .class_ 14), (1, u "java/lang/StringUTF16"), (31, u "$assertionsDisabled"), (0, u "Z"), (13, u "HI_BYTE_SHIFT"), (0, u "I"), (2, u "LO_BYTE_SHIFT"), (49, .methodref 12 116), (0, .nameAndType 117 118), (0, u "compress"), (0, u "([CI[BII)I"), (3, u "([CII)[B"), (138, u "coderFromArrayLen"), (0, u "([BI)B"), (106, .class_ 371), (1, u "java/lang/StringUTF16$LinesSpliterator"), (58, u "MAX_LENGTH"), (196, .class_ 628), (0, u "java/lang/StringUTF16$CodePointsSpliterator"), (0, .class_ 630), (0, u "java/lang/StringUTF16$CharsSpliterator")] 4

def k8m0 : Method := { name := "<init>", desc := "()V", sig := { parameters := [], returnType := none }, accessFlags := 0, code := none }
def k8c1 : Code := { maxStack := 2, maxLocals := 2, code := jdk_52_method_15_code, exceptionTable := #[], attributes := #[] }
def k8m1 : Method := { name := "coderFromArrayLen", desc := "([BI)B", sig := { parameters := [(.array .byte), .int], returnType := some .byte }, accessFlags := 8, code := some k8c1 }
def k8c2 : Code := { maxStack := 5, maxLocals := 6, code := jdk_52_method_16_code, exceptionTable := #[], attributes := #[] }
def k8m2 : Method := { name := "compress", desc := "([CII)[B", sig := { parameters := [(.array .char), .int, .int], returnType := some (.array .byte) }, accessFlags := 9, code := some k8c2 }
def k8c3 : Code := { maxStack := 3, maxLocals := 7, code := jdk_52_method_21_code, exceptionTable := #[], attributes := #[] }
def k8m3 : Method := { name := "compress", desc := "([CI[BII)I", sig := { parameters := [(.array .char), .int, (.array .byte), .int, .int], returnType := some .int }, accessFlags := 9, code := some k8c3 }
/-- java/lang/StringUTF16 -/
def k8 : Class := { plain "java/lang/StringUTF16" (some 0) with
  accessFlags := 48
  interfaces := #[]
  cf := some (fileOf pool8 12 #[.nestMembers #[627, 629, 369]] #[{ accessFlags := 0, nameIndex := 9, descriptorIndex := 10, attributes := #[] }, { accessFlags := 8, nameIndex := 261, descriptorIndex := 262, attributes := #[] }, { accessFlags := 9, nameIndex := 117, descriptorIndex := 122, attributes := #[] }, { accessFlags := 9, nameIndex := 117, descriptorIndex := 118, attributes := #[] }] 48 6 #[] #[{ accessFlags := 26, nameIndex := 61, descriptorIndex := 62, attributes := #[] }, { accessFlags := 26, nameIndex := 65, descriptorIndex := 62, attributes := #[] }, { accessFlags := 24, nameIndex := 430, descriptorIndex := 62, attributes := #[] }, { accessFlags := 4120, nameIndex := 46, descriptorIndex := 47, attributes := #[] }])
  fields := #[{ name := "HI_BYTE_SHIFT", type := .int, accessFlags := 26, slot := 0, constantValue := 0 }, { name := "LO_BYTE_SHIFT", type := .int, accessFlags := 26, slot := 1, constantValue := 0 }, { name := "MAX_LENGTH", type := .int, accessFlags := 24, slot := 2, constantValue := 0 }, { name := "$assertionsDisabled", type := .boolean, accessFlags := 4120, slot := 3, constantValue := 0 }]
  methods := #[k8m0, k8m1, k8m2, k8m3]
  instanceTypes := #[]
  staticTypes := #[.int, .int, .int, .boolean]
  resolved := Array.replicate 635 none
  statics := none }

def pool9 : Array CpInfo := pool [(1, .methodref 2 3), (0, .class_ 4), (0, .nameAndType 5 6), (0, u "java/lang/Object"), (0, u "<init>"), (0, u "()V"), (0, .class_ 8), (0, u "java/lang/Record")] 13

def k9c0 : Code := { maxStack := 1, maxLocals := 1, code := jdk_30_method_1_code, exceptionTable := #[], attributes := #[] }
def k9m0 : Method := { name := "<init>", desc := "()V", sig := { parameters := [], returnType := none }, accessFlags := 4, code := some k9c0 }
/-- java/lang/Record -/
def k9 : Class := { plain "java/lang/Record" (some 0) with
  accessFlags := 1057
  interfaces := #[]
  cf := some (fileOf pool9 7 #[] #[{ accessFlags := 4, nameIndex := 5, descriptorIndex := 6, attributes := #[] }] 1057 2 #[] #[])
  fields := #[]
  methods := #[k9m0]
  instanceTypes := #[]
  staticTypes := #[]
  resolved := Array.replicate 22 none
  statics := none }

def pool10 : Array CpInfo := pool [(1, .methodref 2 3), (0, .class_ 4), (0, .nameAndType 5 6), (0, u "java/lang/Record"), (0, u "<init>"), (0, u "()V"), (0, .string 8), (0, u "name"), (0, .methodref 10 11), (0, .class_ 12), (0, .nameAndType 13 14), (0, u "java/util/Objects"), (0, u "requireNonNull"), (0, u "(Ljava/lang/Object;Ljava/lang/String;)Ljava/lang/Object;"), (0, .methodref 16 17), (0, .class_ 18), (0, .nameAndType 19 20), (0, u "java/lang/String"), (0, u "isEmpty"), (0, u "()Z"), (3, .class_ 26), (1, u "com/example/schenley/schenley/Identifier"), (2, .methodref 16 30), (0, .nameAndType 31 32), (0, u "length"), (0, u "()I"), (4, .methodref 16 38), (0, .nameAndType 39 40), (0, u "charAt"), (0, u "(I)C"), (0, .methodref 24 42), (0, .nameAndType 43 44), (0, u "isDigit"), (0, u "(C)Z"), (2, .methodref 24 48), (0, .nameAndType 49 44), (0, u "isPlain"), (10, .fieldref 24 61), (0, .nameAndType 8 62), (0, u "Ljava/lang/String;"), (0, .methodref 16 64), (0, .nameAndType 65 66), (0, u "equals"), (0, u "(Ljava/lang/Object;)Z"), (27, u "(Ljava/lang/String;)V"), (0, u "MAX_LENGTH"), (0, u "I")] 32

def k10c0 : Code := { maxStack := 3, maxLocals := 3, code := prog_10_method_1_code, exceptionTable := #[], attributes := #[] }
def k10m0 : Method := { name := "<init>", desc := "(Ljava/lang/String;)V", sig := { parameters := [(.object "java/lang/String")], returnType := none }, accessFlags := 1, code := some k10c0 }
def k10c1 : Code := { maxStack := 2, maxLocals := 3, code := prog_10_method_3_code, exceptionTable := #[], attributes := #[] }
def k10m1 : Method := { name := "equals", desc := "(Ljava/lang/Object;)Z", sig := { parameters := [(.object "java/lang/Object")], returnType := some .boolean }, accessFlags := 1, code := some k10c1 }
def k10c2 : Code := { maxStack := 2, maxLocals := 1, code := prog_10_method_5_code, exceptionTable := #[], attributes := #[] }
def k10m2 : Method := { name := "isPlain", desc := "(C)Z", sig := { parameters := [.char], returnType := some .boolean }, accessFlags := 10, code := some k10c2 }
def k10c3 : Code := { maxStack := 2, maxLocals := 1, code := prog_10_method_6_code, exceptionTable := #[], attributes := #[] }
def k10m3 : Method := { name := "isDigit", desc := "(C)Z", sig := { parameters := [.char], returnType := some .boolean }, accessFlags := 10, code := some k10c3 }
/-- com/example/schenley/schenley/Identifier -/
def k10 : Class := { plain "com/example/schenley/schenley/Identifier" (some 9) with
  accessFlags := 49
  interfaces := #[]
  cf := some (fileOf pool10 24 #[] #[{ accessFlags := 1, nameIndex := 5, descriptorIndex := 94, attributes := #[] }, { accessFlags := 1, nameIndex := 65, descriptorIndex := 66, attributes := #[] }, { accessFlags := 10, nameIndex := 49, descriptorIndex := 44, attributes := #[] }, { accessFlags := 10, nameIndex := 43, descriptorIndex := 44, attributes := #[] }] 49 2 #[] #[{ accessFlags := 18, nameIndex := 8, descriptorIndex := 62, attributes := #[] }, { accessFlags := 25, nameIndex := 95, descriptorIndex := 96, attributes := #[] }])
  fields := #[{ name := "name", type := (.object "java/lang/String"), accessFlags := 18, slot := 0, constantValue := 0 }, { name := "MAX_LENGTH", type := .int, accessFlags := 25, slot := 0, constantValue := 0 }]
  methods := #[k10m0, k10m1, k10m2, k10m3]
  instanceTypes := #[(.object "java/lang/String")]
  staticTypes := #[.int]
  resolved := Array.replicate 129 none
  statics := none }

def pool11 : Array CpInfo := pool [(2, .class_ 4), (1, u "java/lang/Object"), (0, u "<init>"), (0, u "()V"), (35, .class_ 44), (1, u "java/util/Objects"), (0, u "requireNonNull"), (48, u "(Ljava/lang/Object;Ljava/lang/String;)Ljava/lang/Object;")] 89

def k11m0 : Method := { name := "<init>", desc := "()V", sig := { parameters := [], returnType := none }, accessFlags := 2, code := none }
def k11c1 : Code := { maxStack := 3, maxLocals := 2, code := jdk_31_method_11_code, exceptionTable := #[], attributes := #[] }
def k11m1 : Method := { name := "requireNonNull", desc := "(Ljava/lang/Object;Ljava/lang/String;)Ljava/lang/Object;", sig := { parameters := [(.object "java/lang/Object"), (.object "java/lang/String")], returnType := some (.object "java/lang/Object") }, accessFlags := 9, code := some k11c1 }
/-- java/util/Objects -/
def k11 : Class := { plain "java/util/Objects" (some 0) with
  accessFlags := 49
  interfaces := #[]
  cf := some (fileOf pool11 42 #[] #[{ accessFlags := 2, nameIndex := 5, descriptorIndex := 6, attributes := #[] }, { accessFlags := 9, nameIndex := 45, descriptorIndex := 94, attributes := #[] }] 49 2 #[] #[])
  fields := #[]
  methods := #[k11m0, k11m1]
  instanceTypes := #[]
  staticTypes := #[]
  resolved := Array.replicate 184 none
  statics := none }

def pool12 : Array CpInfo := pool [(1, .class_ 2), (0, u "java/lang/String"), (1, .class_ 6), (1, u "java/lang/Object"), (0, u "<init>"), (0, u "()V"), (0, .methodref 1 10), (0, .nameAndType 11 12), (0, u "checkIndex"), (0, u "(II)V"), (1, .class_ 16), (1, u "java/lang/StringLatin1"), (36, u "([BI)C"), (67, u "$assertionsDisabled"), (0, u "Z"), (98, .class_ 223), (1, u "java/lang/StringLatin1$LinesSpliterator"), (28, u "charAt"), (28, u "equals"), (0, u "([B[B)Z"), (107, .class_ 391), (0, u "java/lang/StringLatin1$CharsSpliterator")] 3

def k12m0 : Method := { name := "<init>", desc := "()V", sig := { parameters := [], returnType := none }, accessFlags := 0, code := none }
def k12c1 : Code := { maxStack := 2, maxLocals := 2, code := jdk_43_method_2_code, exceptionTable := #[], attributes := #[] }
def k12m1 : Method := { name := "charAt", desc := "([BI)C", sig := { parameters := [(.array .byte), .int], returnType := some .char }, accessFlags := 9, code := some k12c1 }
def k12c2 : Code := { maxStack := 3, maxLocals := 3, code := jdk_43_method_13_code, exceptionTable := #[], attributes := #[] }
def k12m2 : Method := { name := "equals", desc := "([B[B)Z", sig := { parameters := [(.array .byte), (.array .byte)], returnType := some .boolean }, accessFlags := 9, code := some k12c2 }
/-- java/lang/StringLatin1 -/
def k12 : Class := { plain "java/lang/StringLatin1" (some 0) with
  accessFlags := 48
  interfaces := #[]
  cf := some (fileOf pool12 14 #[.nestMembers #[390, 221]] #[{ accessFlags := 0, nameIndex := 7, descriptorIndex := 8, attributes := #[] }, { accessFlags := 9, nameIndex := 252, descriptorIndex := 53, attributes := #[] }, { accessFlags := 9, nameIndex := 281, descriptorIndex := 282, attributes := #[] }] 48 4 #[] #[{ accessFlags := 4120, nameIndex := 121, descriptorIndex := 122, attributes := #[] }])
  fields := #[{ name := "$assertionsDisabled", type := .boolean, accessFlags := 4120, slot := 0, constantValue := 0 }]
  methods := #[k12m0, k12m1, k12m2]
  instanceTypes := #[]
  staticTypes := #[.boolean]
  resolved := Array.replicate 395 none
  statics := none }

def pool13 : Array CpInfo := pool [(2, .class_ 4), (1, u "java/lang/Object"), (0, u "<init>"), (0, u "()V"), (17, .class_ 26), (1, u "jdk/internal/util/Preconditions"), (6, u "checkIndex"), (21, .class_ 56), (0, u "jdk/internal/util/Preconditions$4"), (57, .class_ 115), (0, u "jdk/internal/util/Preconditions$1"), (7, u "SIOOBE_FORMATTER"), (0, u "Ljava/util/function/BiFunction;"), (0, .class_ 126), (0, u "jdk/internal/util/Preconditions$2"), (3, u "AIOOBE_FORMATTER"), (0, .class_ 132), (0, u "jdk/internal/util/Preconditions$3"), (3, u "IOOBE_FORMATTER"), (41, u "(IILjava/util/function/BiFunction;)I")] 15

def k13m0 : Method := { name := "<init>", desc := "()V", sig := { parameters := [], returnType := none }, accessFlags := 1, code := none }
def k13c1 : Code := { maxStack := 3, maxLocals := 3, code := jdk_41_method_11_code, exceptionTable := #[], attributes := #[] }
def k13m1 : Method := { name := "checkIndex", desc := "(IILjava/util/function/BiFunction;)I", sig := { parameters := [.int, .int, (.object "java/util/function/BiFunction")], returnType := some .int }, accessFlags := 9, code := some k13c1 }
/-- jdk/internal/util/Preconditions -/
def k13 : Class := { plain "jdk/internal/util/Preconditions" (some 0) with
  accessFlags := 33
  interfaces := #[]
  cf := some (fileOf pool13 24 #[.nestMembers #[55, 131, 125, 114]] #[{ accessFlags := 1, nameIndex := 5, descriptorIndex := 6, attributes := #[] }, { accessFlags := 9, nameIndex := 33, descriptorIndex := 178, attributes := #[] }] 33 2 #[] #[{ accessFlags := 25, nameIndex := 123, descriptorIndex := 124, attributes := #[] }, { accessFlags := 25, nameIndex := 130, descriptorIndex := 124, attributes := #[] }, { accessFlags := 25, nameIndex := 136, descriptorIndex := 124, attributes := #[] }])
  fields := #[{ name := "SIOOBE_FORMATTER", type := (.object "java/util/function/BiFunction"), accessFlags := 25, slot := 0, constantValue := 0 }, { name := "AIOOBE_FORMATTER", type := (.object "java/util/function/BiFunction"), accessFlags := 25, slot := 1, constantValue := 0 }, { name := "IOOBE_FORMATTER", type := (.object "java/util/function/BiFunction"), accessFlags := 25, slot := 2, constantValue := 0 }]
  methods := #[k13m0, k13m1]
  instanceTypes := #[]
  staticTypes := #[(.object "java/util/function/BiFunction"), (.object "java/util/function/BiFunction"), (.object "java/util/function/BiFunction")]
  resolved := Array.replicate 194 none
  statics := some 1 }

def pool14 : Array CpInfo := pool [(9, u "<init>"), (6, .class_ 18), (1, u "java/lang/Object"), (0, u "()V"), (1, .class_ 23), (1, u "jdk/internal/util/ArraysSupport"), (0, u "LOG2_ARRAY_LONG_INDEX_SCALE"), (0, u "I"), (2, u "U"), (0, u "Ljdk/internal/misc/Unsafe;"), (8, u "BIG_ENDIAN"), (0, u "Z"), (8, u "LOG2_BYTE_BIT_SIZE"), (4, u "LOG2_ARRAY_INT_INDEX_SCALE"), (54, u "JLA"), (0, u "Ljdk/internal/access/JavaLangAccess;"), (11, u "LOG2_ARRAY_BOOLEAN_INDEX_SCALE"), (9, u "LOG2_ARRAY_BYTE_INDEX_SCALE"), (5, u "LOG2_ARRAY_CHAR_INDEX_SCALE"), (5, u "LOG2_ARRAY_SHORT_INDEX_SCALE"), (18, u "LOG2_ARRAY_FLOAT_INDEX_SCALE"), (24, u "LOG2_ARRAY_DOUBLE_INDEX_SCALE"), (89, u "T_BOOLEAN"), (2, u "T_CHAR"), (1, u "T_FLOAT"), (1, u "T_DOUBLE"), (1, u "T_BYTE"), (1, u "T_SHORT"), (1, u "T_INT"), (1, u "T_LONG"), (1, u "SOFT_MAX_ARRAY_LENGTH")] 83

def k14m0 : Method := { name := "<init>", desc := "()V", sig := { parameters := [], returnType := none }, accessFlags := 2, code := none }
/-- jdk/internal/util/ArraysSupport -/
def k14 : Class := { plain "jdk/internal/util/ArraysSupport" (some 0) with
  accessFlags := 33
  interfaces := #[]
  cf := some (fileOf pool14 21 #[] #[{ accessFlags := 2, nameIndex := 9, descriptorIndex := 19, attributes := #[] }] 33 16 #[] #[{ accessFlags := 24, nameIndex := 28, descriptorIndex := 29, attributes := #[] }, { accessFlags := 26, nameIndex := 38, descriptorIndex := 39, attributes := #[] }, { accessFlags := 25, nameIndex := 121, descriptorIndex := 25, attributes := #[] }, { accessFlags := 25, nameIndex := 131, descriptorIndex := 25, attributes := #[] }, { accessFlags := 25, nameIndex := 137, descriptorIndex := 25, attributes := #[] }, { accessFlags := 25, nameIndex := 143, descriptorIndex := 25, attributes := #[] }, { accessFlags := 25, nameIndex := 53, descriptorIndex := 25, attributes := #[] }, { accessFlags := 25, nameIndex := 24, descriptorIndex := 25, attributes := #[] }, { accessFlags := 25, nameIndex := 162, descriptorIndex := 25, attributes := #[] }, { accessFlags := 25, nameIndex := 187, descriptorIndex := 25, attributes := #[] }, { accessFlags := 26, nameIndex := 48, descriptorIndex := 25, attributes := #[] }, { accessFlags := 25, nameIndex := 277, descriptorIndex := 25, attributes := #[] }, { accessFlags := 25, nameIndex := 280, descriptorIndex := 25, attributes := #[] }, { accessFlags := 25, nameIndex := 282, descriptorIndex := 25, attributes := #[] }, { accessFlags := 25, nameIndex := 284, descriptorIndex := 25, attributes := #[] }, { accessFlags := 25, nameIndex := 286, descriptorIndex := 25, attributes := #[] }, { accessFlags := 25, nameIndex := 288, descriptorIndex := 25, attributes := #[] }, { accessFlags := 25, nameIndex := 290, descriptorIndex := 25, attributes := #[] }, { accessFlags := 25, nameIndex := 292, descriptorIndex := 25, attributes := #[] }, { accessFlags := 26, nameIndex := 108, descriptorIndex := 109, attributes := #[] }, { accessFlags := 25, nameIndex := 294, descriptorIndex := 25, attributes := #[] }])
  fields := #[{ name := "U", type := (.object "jdk/internal/misc/Unsafe"), accessFlags := 24, slot := 0, constantValue := 0 }, { name := "BIG_ENDIAN", type := .boolean, accessFlags := 26, slot := 1, constantValue := 0 }, { name := "LOG2_ARRAY_BOOLEAN_INDEX_SCALE", type := .int, accessFlags := 25, slot := 2, constantValue := 0 }, { name := "LOG2_ARRAY_BYTE_INDEX_SCALE", type := .int, accessFlags := 25, slot := 3, constantValue := 0 }, { name := "LOG2_ARRAY_CHAR_INDEX_SCALE", type := .int, accessFlags := 25, slot := 4, constantValue := 0 }, { name := "LOG2_ARRAY_SHORT_INDEX_SCALE", type := .int, accessFlags := 25, slot := 5, constantValue := 0 }, { name := "LOG2_ARRAY_INT_INDEX_SCALE", type := .int, accessFlags := 25, slot := 6, constantValue := 0 }, { name := "LOG2_ARRAY_LONG_INDEX_SCALE", type := .int, accessFlags := 25, slot := 7, constantValue := 0 }, { name := "LOG2_ARRAY_FLOAT_INDEX_SCALE", type := .int, accessFlags := 25, slot := 8, constantValue := 0 }, { name := "LOG2_ARRAY_DOUBLE_INDEX_SCALE", type := .int, accessFlags := 25, slot := 9, constantValue := 0 }, { name := "LOG2_BYTE_BIT_SIZE", type := .int, accessFlags := 26, slot := 10, constantValue := 0 }, { name := "T_BOOLEAN", type := .int, accessFlags := 25, slot := 11, constantValue := 0 }, { name := "T_CHAR", type := .int, accessFlags := 25, slot := 12, constantValue := 0 }, { name := "T_FLOAT", type := .int, accessFlags := 25, slot := 13, constantValue := 0 }, { name := "T_DOUBLE", type := .int, accessFlags := 25, slot := 14, constantValue := 0 }, { name := "T_BYTE", type := .int, accessFlags := 25, slot := 15, constantValue := 0 }, { name := "T_SHORT", type := .int, accessFlags := 25, slot := 16, constantValue := 0 }, { name := "T_INT", type := .int, accessFlags := 25, slot := 17, constantValue := 0 }, { name := "T_LONG", type := .int, accessFlags := 25, slot := 18, constantValue := 0 }, { name := "JLA", type := (.object "jdk/internal/access/JavaLangAccess"), accessFlags := 26, slot := 19, constantValue := 0 }, { name := "SOFT_MAX_ARRAY_LENGTH", type := .int, accessFlags := 25, slot := 20, constantValue := 0 }]
  methods := #[k14m0]
  instanceTypes := #[]
  staticTypes := #[(.object "jdk/internal/misc/Unsafe"), .boolean, .int, .int, .int, .int, .int, .int, .int, .int, .int, .int, .int, .int, .int, .int, .int, .int, .int, (.object "jdk/internal/access/JavaLangAccess"), .int]
  resolved := Array.replicate 378 none
  statics := none }

def pool15 : Array CpInfo := pool [(1, u "java/lang/Cloneable"), (0, .class_ 1), (0, u "java/lang/Object"), (0, .class_ 3)] 3

/-- java/lang/Cloneable -/
def k15 : Class := { plain "java/lang/Cloneable" (some 0) with
  accessFlags := 1537
  interfaces := #[]
  cf := some (fileOf pool15 2 #[] #[] 1537 4 #[] #[])
  fields := #[]
  methods := #[]
  instanceTypes := #[]
  staticTypes := #[]
  resolved := Array.replicate 8 none
  statics := none }

/-- the primitive byte -/
def k16 : Class := { plain "byte" none with kind := .primitive 'B', accessFlags := 0x411 }
/-- [B -/
def k17 : Class := { plain "[B" (some 0) with kind := .array 16 .byte, interfaces := #[15, 2], accessFlags := 1041 }

/-- the primitive char -/
def k18 : Class := { plain "char" none with kind := .primitive 'C', accessFlags := 0x411 }
/-- [C -/
def k19 : Class := { plain "[C" (some 0) with kind := .array 18 .char, interfaces := #[15, 2], accessFlags := 1041 }

/-- the primitive int -/
def k20 : Class := { plain "int" none with kind := .primitive 'I', accessFlags := 0x411 }
/-- [I -/
def k21 : Class := { plain "[I" (some 0) with kind := .array 20 .int, interfaces := #[15, 2], accessFlags := 1041 }

def heap : Heap := #[{ cls := 7, slots := #[.long 0, .int 1, .null, .int 0, .null, .int 0, .int 0], vm := .statics 7 },
  { cls := 13, slots := #[.null, .null, .null], vm := .statics 13 }]
def classes : Array Class := #[k0, k1, k2, k3, k4, k5, k6, k7, k8, k9, k10, k11, k12, k13, k14, k15, k16, k17, k18, k19, k20, k21]
def interned : List (Array UInt16 × Addr) := []
def slotsUsed : Nat := 10
def theMethod : MethodId := ⟨1, 4⟩
def args0 : Array Value := #[.int 5, .int 9, .int 5, .int 9, .int 3, .int 7]
def aboutOver (below : List Frame) : State where
  vm := { classes := classes, interned := interned.toArray }
  heap := heap
  slotsUsed := slotsUsed
  threads := #[{ frames := .invoking theMethod args0 :: below }]
def below0 : List Frame := [.native { method := ⟨0, 0⟩, args := #[] }]
def about1 : State := aboutOver below0
def p0 : Program := .bare "" "" ""
def e0 : Env := launch0.env 0 0 0
theorem w_frames : about1.frames = Frame.invoking theMethod args0 :: below0 := rfl
set_option maxRecDepth 65536 in
theorem w_args : argsFit about1.vm theMethod args0 = true := by decide +kernel
set_option maxRecDepth 65536 in
theorem w_heap : heapFits about1 = true := by decide +kernel
set_option maxRecDepth 65536 in
theorem w_runnable : about1.curStatus? = some .runnable := by decide +kernel
set_option maxRecDepth 65536 in
theorem w_alone : about1.alone = true := by decide +kernel
set_option maxRecDepth 65536 in
theorem w_named : about1.methodNamed? x = some theMethod := by decide +kernel
set_option maxRecDepth 65536 in
theorem w_hears : about1.hears theMethod below0 = true := by decide +kernel
set_option maxRecDepth 65536 in
theorem w_ripe : about1.ripe theMethod args0 below0 = true := by decide +kernel
theorem w_running : about1.status = .running := rfl
set_option maxRecDepth 65536 in
theorem w_room : about1.hasRoom e0.platform room_1 = true :=
  launch0.hasRoom_least _ room_1 (by decide +kernel) (by decide +kernel) (by decide +kernel) (by decide +kernel) (by decide +kernel) (by decide +kernel)
theorem allAtoms_all (ts : List Jvm.Cond) (a : Array Jvm.Value) (st : Jvm.State) : (allAtoms ts).before a st = ts.all (fun c => c.before a st) := by
  induction ts with
  | nil => rfl
  | cons c t ih =>
    show (Jvm.Cond.and c (allAtoms t)).before a st = _
    rw [Jvm.Cond.before_and, ih, List.all_cons]
def words1 : List Jvm.Cond := Jvm.Cond.code x code maxLocals ret :: tables_1
/-- a 'code' word, met by the world's own term for the bytes: nothing is compared byte by byte -/
theorem code_word {y : MethodName} {bytes : ByteArray} {mx : Nat} {rt : Option FieldType} {a : Array Value} {s : State} {m : MethodId} {meth : Method} {c : Code} (h1 : s.methodNamed? y = some m) (h2 : s.vm.method? m = some meth) (h3 : meth.code = some c) (h4 : c.code = bytes)
    (h5 : (c.maxLocals == mx && c.exceptionTable.isEmpty && decide (c.maxStack ≤ mostOperands) && decide (meth.sig.returnType = rt) && !meth.locks && decide (parseMethodDescriptor y.desc = some meth.sig)) = true) : (Jvm.Cond.code y bytes mx rt).before a s = true := by
  simp only [Bool.and_eq_true, beq_iff_eq, Bool.not_eq_true', decide_eq_true_eq] at h5
  obtain ⟨⟨⟨⟨⟨g1, g2⟩, g3⟩, g4⟩, g5⟩, g6⟩ := h5
  simp [Cond.before, Cond.holds, Cond.value, h1, h2, h3, h4, g1, g2, g3, g4, g5, g6]
def isCode : Jvm.Cond → Bool
  | .code _ _ _ _ => true
  | _ => false
theorem all_split {L : List Jvm.Cond} {P : Jvm.Cond → Bool} (h1 : L.all (fun c => isCode c || P c) = true) (h2 : ∀ c ∈ L.filter isCode, P c = true) : L.all P = true := by
  refine List.all_eq_true.mpr fun c hc => ?_
  have h := List.all_eq_true.mp h1 c hc
  rcases Bool.eq_false_or_eq_true (isCode c) with hi | hi
  · exact h2 c (List.mem_filter.mpr ⟨hc, hi⟩)
  · simpa [hi] using h
set_option maxRecDepth 65536 in
theorem w_c0 : (Jvm.Cond.code x code maxLocals ret).before args0 about1 = true := code_word (m := ⟨1, 4⟩) (meth := k1m4) (c := k1c4) (by decide +kernel) rfl rfl rfl (by decide +kernel)
set_option maxRecDepth 65536 in
theorem w_c1 : (Jvm.Cond.code ({ cls := "com/example/schenley/schenley/IdentifierEqualsPinLaw", name := "firstPlain", desc := "(I)C" } : Jvm.MethodName) method_3_code (2 : Nat) (Option.some Jvm.ClassFile.FieldType.char)).before args0 about1 = true := code_word (m := ⟨1, 2⟩) (meth := k1m2) (c := k1c2) (by decide +kernel) rfl rfl rfl (by decide +kernel)
set_option maxRecDepth 65536 in
theorem w_c2 : (Jvm.Cond.code ({ cls := "com/example/schenley/schenley/IdentifierEqualsPinLaw", name := "anyPlain", desc := "(I)C" } : Jvm.MethodName) method_2_code (2 : Nat) (Option.some Jvm.ClassFile.FieldType.char)).before args0 about1 = true := code_word (m := ⟨1, 1⟩) (meth := k1m1) (c := k1c1) (by decide +kernel) rfl rfl rfl (by decide +kernel)
set_option maxRecDepth 65536 in
theorem w_c3 : (Jvm.Cond.code ({ cls := "com/example/schenley/schenley/IdentifierEqualsPinLaw", name := "spell", desc := "(ICCC)Ljava/lang/String;" } : Jvm.MethodName) method_4_code (4 : Nat) (Option.some (Jvm.ClassFile.FieldType.object "java/lang/String"))).before args0 about1 = true := code_word (m := ⟨1, 3⟩) (meth := k1m3) (c := k1c3) (by decide +kernel) rfl rfl rfl (by decide +kernel)
set_option maxRecDepth 65536 in
theorem w_c4 : (Jvm.Cond.code ({ cls := "java/lang/String", name := "<init>", desc := "([C)V" } : Jvm.MethodName) jdk_42_method_3_code (2 : Nat) (Option.none : Option Jvm.ClassFile.FieldType)).before args0 about1 = true := code_word (m := ⟨7, 1⟩) (meth := k7m1) (c := k7c1) (by decide +kernel) rfl rfl rfl (by decide +kernel)
set_option maxRecDepth 65536 in
theorem w_c5 : (Jvm.Cond.code ({ cls := "java/lang/String", name := "<init>", desc := "([CIILjava/lang/Void;)V" } : Jvm.MethodName) jdk_42_method_149_code (6 : Nat) (Option.none : Option Jvm.ClassFile.FieldType)).before args0 about1 = true := code_word (m := ⟨7, 6⟩) (meth := k7m6) (c := k7c6) (by decide +kernel) rfl rfl rfl (by decide +kernel)
set_option maxRecDepth 65536 in
theorem w_c6 : (Jvm.Cond.code ({ cls := "java/lang/Object", name := "<init>", desc := "()V" } : Jvm.MethodName) object_method_1_code (1 : Nat) (Option.none : Option Jvm.ClassFile.FieldType)).before args0 about1 = true := code_word (m := ⟨0, 0⟩) (meth := k0m0) (c := k0c0) (by decide +kernel) rfl rfl rfl (by decide +kernel)
set_option maxRecDepth 65536 in
theorem w_c7 : (Jvm.Cond.code ({ cls := "java/lang/StringUTF16", name := "compress", desc := "([CII)[B" } : Jvm.MethodName) jdk_52_method_16_code (6 : Nat) (Option.some (Jvm.ClassFile.FieldType.array Jvm.ClassFile.FieldType.byte))).before args0 about1 = true := code_word (m := ⟨8, 2⟩) (meth := k8m2) (c := k8c2) (by decide +kernel) rfl rfl rfl (by decide +kernel)
set_option maxRecDepth 65536 in
theorem w_c8 : (Jvm.Cond.code ({ cls := "java/lang/StringUTF16", name := "compress", desc := "([CI[BII)I" } : Jvm.MethodName) jdk_52_method_21_code (7 : Nat) (Option.some Jvm.ClassFile.FieldType.int)).before args0 about1 = true := code_word (m := ⟨8, 3⟩) (meth := k8m3) (c := k8c3) (by decide +kernel) rfl rfl rfl (by decide +kernel)
set_option maxRecDepth 65536 in
theorem w_c9 : (Jvm.Cond.code ({ cls := "java/lang/StringUTF16", name := "coderFromArrayLen", desc := "([BI)B" } : Jvm.MethodName) jdk_52_method_15_code (2 : Nat) (Option.some Jvm.ClassFile.FieldType.byte)).before args0 about1 = true := code_word (m := ⟨8, 1⟩) (meth := k8m1) (c := k8c1) (by decide +kernel) rfl rfl rfl (by decide +kernel)
set_option maxRecDepth 65536 in
theorem w_c10 : (Jvm.Cond.code ({ cls := "com/example/schenley/schenley/Identifier", name := "<init>", desc := "(Ljava/lang/String;)V" } : Jvm.MethodName) prog_10_method_1_code (3 : Nat) (Option.none : Option Jvm.ClassFile.FieldType)).before args0 about1 = true := code_word (m := ⟨10, 0⟩) (meth := k10m0) (c := k10c0) (by decide +kernel) rfl rfl rfl (by decide +kernel)
set_option maxRecDepth 65536 in
theorem w_c11 : (Jvm.Cond.code ({ cls := "java/lang/Record", name := "<init>", desc := "()V" } : Jvm.MethodName) jdk_30_method_1_code (1 : Nat) (Option.none : Option Jvm.ClassFile.FieldType)).before args0 about1 = true := code_word (m := ⟨9, 0⟩) (meth := k9m0) (c := k9c0) (by decide +kernel) rfl rfl rfl (by decide +kernel)
set_option maxRecDepth 65536 in
theorem w_c12 : (Jvm.Cond.code ({ cls := "java/util/Objects", name := "requireNonNull", desc := "(Ljava/lang/Object;Ljava/lang/String;)Ljava/lang/Object;" } : Jvm.MethodName) jdk_31_method_11_code (2 : Nat) (Option.some (Jvm.ClassFile.FieldType.object "java/lang/Object"))).before args0 about1 = true := code_word (m := ⟨11, 1⟩) (meth := k11m1) (c := k11c1) (by decide +kernel) rfl rfl rfl (by decide +kernel)
set_option maxRecDepth 65536 in
theorem w_c13 : (Jvm.Cond.code ({ cls := "java/lang/String", name := "isEmpty", desc := "()Z" } : Jvm.MethodName) jdk_42_method_55_code (1 : Nat) (Option.some Jvm.ClassFile.FieldType.boolean)).before args0 about1 = true := code_word (m := ⟨7, 3⟩) (meth := k7m3) (c := k7c3) (by decide +kernel) rfl rfl rfl (by decide +kernel)
set_option maxRecDepth 65536 in
theorem w_c14 : (Jvm.Cond.code ({ cls := "java/lang/String", name := "length", desc := "()I" } : Jvm.MethodName) jdk_42_method_54_code (1 : Nat) (Option.some Jvm.ClassFile.FieldType.int)).before args0 about1 = true := code_word (m := ⟨7, 2⟩) (meth := k7m2) (c := k7c2) (by decide +kernel) rfl rfl rfl (by decide +kernel)
set_option maxRecDepth 65536 in
theorem w_c15 : (Jvm.Cond.code ({ cls := "java/lang/String", name := "coder", desc := "()B" } : Jvm.MethodName) jdk_42_method_152_code (1 : Nat) (Option.some Jvm.ClassFile.FieldType.byte)).before args0 about1 = true := code_word (m := ⟨7, 7⟩) (meth := k7m7) (c := k7c7) (by decide +kernel) rfl rfl rfl (by decide +kernel)
set_option maxRecDepth 65536 in
theorem w_c16 : (Jvm.Cond.code ({ cls := "java/lang/String", name := "charAt", desc := "(I)C" } : Jvm.MethodName) jdk_42_method_56_code (2 : Nat) (Option.some Jvm.ClassFile.FieldType.char)).before args0 about1 = true := code_word (m := ⟨7, 4⟩) (meth := k7m4) (c := k7c4) (by decide +kernel) rfl rfl rfl (by decide +kernel)
set_option maxRecDepth 65536 in
theorem w_c17 : (Jvm.Cond.code ({ cls := "java/lang/String", name := "isLatin1", desc := "()Z" } : Jvm.MethodName) jdk_42_method_154_code (1 : Nat) (Option.some Jvm.ClassFile.FieldType.boolean)).before args0 about1 = true := code_word (m := ⟨7, 8⟩) (meth := k7m8) (c := k7c8) (by decide +kernel) rfl rfl rfl (by decide +kernel)
set_option maxRecDepth 65536 in
theorem w_c18 : (Jvm.Cond.code ({ cls := "java/lang/StringLatin1", name := "charAt", desc := "([BI)C" } : Jvm.MethodName) jdk_43_method_2_code (2 : Nat) (Option.some Jvm.ClassFile.FieldType.char)).before args0 about1 = true := code_word (m := ⟨12, 1⟩) (meth := k12m1) (c := k12c1) (by decide +kernel) rfl rfl rfl (by decide +kernel)
set_option maxRecDepth 65536 in
theorem w_c19 : (Jvm.Cond.code ({ cls := "java/lang/String", name := "checkIndex", desc := "(II)V" } : Jvm.MethodName) jdk_42_method_155_code (2 : Nat) (Option.none : Option Jvm.ClassFile.FieldType)).before args0 about1 = true := code_word (m := ⟨7, 9⟩) (meth := k7m9) (c := k7c9) (by decide +kernel) rfl rfl rfl (by decide +kernel)
set_option maxRecDepth 65536 in
theorem w_c20 : (Jvm.Cond.code ({ cls := "jdk/internal/util/Preconditions", name := "checkIndex", desc := "(IILjava/util/function/BiFunction;)I" } : Jvm.MethodName) jdk_41_method_11_code (3 : Nat) (Option.some Jvm.ClassFile.FieldType.int)).before args0 about1 = true := code_word (m := ⟨13, 1⟩) (meth := k13m1) (c := k13c1) (by decide +kernel) rfl rfl rfl (by decide +kernel)
set_option maxRecDepth 65536 in
theorem w_c21 : (Jvm.Cond.code ({ cls := "com/example/schenley/schenley/Identifier", name := "isDigit", desc := "(C)Z" } : Jvm.MethodName) prog_10_method_6_code (1 : Nat) (Option.some Jvm.ClassFile.FieldType.boolean)).before args0 about1 = true := code_word (m := ⟨10, 3⟩) (meth := k10m3) (c := k10c3) (by decide +kernel) rfl rfl rfl (by decide +kernel)
set_option maxRecDepth 65536 in
theorem w_c22 : (Jvm.Cond.code ({ cls := "com/example/schenley/schenley/Identifier", name := "isPlain", desc := "(C)Z" } : Jvm.MethodName) prog_10_method_5_code (1 : Nat) (Option.some Jvm.ClassFile.FieldType.boolean)).before args0 about1 = true := code_word (m := ⟨10, 2⟩) (meth := k10m2) (c := k10c2) (by decide +kernel) rfl rfl rfl (by decide +kernel)
set_option maxRecDepth 65536 in
theorem w_c23 : (Jvm.Cond.code ({ cls := "com/example/schenley/schenley/Identifier", name := "equals", desc := "(Ljava/lang/Object;)Z" } : Jvm.MethodName) prog_10_method_3_code (3 : Nat) (Option.some Jvm.ClassFile.FieldType.boolean)).before args0 about1 = true := code_word (m := ⟨10, 1⟩) (meth := k10m1) (c := k10c1) (by decide +kernel) rfl rfl rfl (by decide +kernel)
set_option maxRecDepth 65536 in
theorem w_c24 : (Jvm.Cond.code ({ cls := "java/lang/String", name := "equals", desc := "(Ljava/lang/Object;)Z" } : Jvm.MethodName) jdk_42_method_66_code (3 : Nat) (Option.some Jvm.ClassFile.FieldType.boolean)).before args0 about1 = true := code_word (m := ⟨7, 5⟩) (meth := k7m5) (c := k7c5) (by decide +kernel) rfl rfl rfl (by decide +kernel)
set_option maxRecDepth 65536 in
theorem w_c25 : (Jvm.Cond.code ({ cls := "java/lang/StringLatin1", name := "equals", desc := "([B[B)Z" } : Jvm.MethodName) jdk_43_method_13_code (3 : Nat) (Option.some Jvm.ClassFile.FieldType.boolean)).before args0 about1 = true := code_word (m := ⟨12, 2⟩) (meth := k12m2) (c := k12c2) (by decide +kernel) rfl rfl rfl (by decide +kernel)
def codes1 : List Jvm.Cond := [Jvm.Cond.code x code maxLocals ret, Jvm.Cond.code ({ cls := "com/example/schenley/schenley/IdentifierEqualsPinLaw", name := "firstPlain", desc := "(I)C" } : Jvm.MethodName) method_3_code (2 : Nat) (Option.some Jvm.ClassFile.FieldType.char), Jvm.Cond.code ({ cls := "com/example/schenley/schenley/IdentifierEqualsPinLaw", name := "anyPlain", desc := "(I)C" } : Jvm.MethodName) method_2_code (2 : Nat) (Option.some Jvm.ClassFile.FieldType.char), Jvm.Cond.code ({ cls := "com/example/schenley/schenley/IdentifierEqualsPinLaw", name := "spell", desc := "(ICCC)Ljava/lang/String;" } : Jvm.MethodName) method_4_code (4 : Nat) (Option.some (Jvm.ClassFile.FieldType.object "java/lang/String")), Jvm.Cond.code ({ cls := "java/lang/String", name := "<init>", desc := "([C)V" } : Jvm.MethodName) jdk_42_method_3_code (2 : Nat) (Option.none : Option Jvm.ClassFile.FieldType), Jvm.Cond.code ({ cls := "java/lang/String", name := "<init>", desc := "([CIILjava/lang/Void;)V" } : Jvm.MethodName) jdk_42_method_149_code (6 : Nat) (Option.none : Option Jvm.ClassFile.FieldType), Jvm.Cond.code ({ cls := "java/lang/Object", name := "<init>", desc := "()V" } : Jvm.MethodName) object_method_1_code (1 : Nat) (Option.none : Option Jvm.ClassFile.FieldType), Jvm.Cond.code ({ cls := "java/lang/StringUTF16", name := "compress", desc := "([CII)[B" } : Jvm.MethodName) jdk_52_method_16_code (6 : Nat) (Option.some (Jvm.ClassFile.FieldType.array Jvm.ClassFile.FieldType.byte)), Jvm.Cond.code ({ cls := "java/lang/StringUTF16", name := "compress", desc := "([CI[BII)I" } : Jvm.MethodName) jdk_52_method_21_code (7 : Nat) (Option.some Jvm.ClassFile.FieldType.int), Jvm.Cond.code ({ cls := "java/lang/StringUTF16", name := "coderFromArrayLen", desc := "([BI)B" } : Jvm.MethodName) jdk_52_method_15_code (2 : Nat) (Option.some Jvm.ClassFile.FieldType.byte), Jvm.Cond.code ({ cls := "com/example/schenley/schenley/Identifier", name := "<init>", desc := "(Ljava/lang/String;)V" } : Jvm.MethodName) prog_10_method_1_code (3 : Nat) (Option.none : Option Jvm.ClassFile.FieldType), Jvm.Cond.code ({ cls := "java/lang/Record", name := "<init>", desc := "()V" } : Jvm.MethodName) jdk_30_method_1_code (1 : Nat) (Option.none : Option Jvm.ClassFile.FieldType), Jvm.Cond.code ({ cls := "java/util/Objects", name := "requireNonNull", desc := "(Ljava/lang/Object;Ljava/lang/String;)Ljava/lang/Object;" } : Jvm.MethodName) jdk_31_method_11_code (2 : Nat) (Option.some (Jvm.ClassFile.FieldType.object "java/lang/Object")), Jvm.Cond.code ({ cls := "java/lang/String", name := "isEmpty", desc := "()Z" } : Jvm.MethodName) jdk_42_method_55_code (1 : Nat) (Option.some Jvm.ClassFile.FieldType.boolean), Jvm.Cond.code ({ cls := "java/lang/String", name := "length", desc := "()I" } : Jvm.MethodName) jdk_42_method_54_code (1 : Nat) (Option.some Jvm.ClassFile.FieldType.int), Jvm.Cond.code ({ cls := "java/lang/String", name := "coder", desc := "()B" } : Jvm.MethodName) jdk_42_method_152_code (1 : Nat) (Option.some Jvm.ClassFile.FieldType.byte), Jvm.Cond.code ({ cls := "java/lang/String", name := "charAt", desc := "(I)C" } : Jvm.MethodName) jdk_42_method_56_code (2 : Nat) (Option.some Jvm.ClassFile.FieldType.char), Jvm.Cond.code ({ cls := "java/lang/String", name := "isLatin1", desc := "()Z" } : Jvm.MethodName) jdk_42_method_154_code (1 : Nat) (Option.some Jvm.ClassFile.FieldType.boolean), Jvm.Cond.code ({ cls := "java/lang/StringLatin1", name := "charAt", desc := "([BI)C" } : Jvm.MethodName) jdk_43_method_2_code (2 : Nat) (Option.some Jvm.ClassFile.FieldType.char), Jvm.Cond.code ({ cls := "java/lang/String", name := "checkIndex", desc := "(II)V" } : Jvm.MethodName) jdk_42_method_155_code (2 : Nat) (Option.none : Option Jvm.ClassFile.FieldType), Jvm.Cond.code ({ cls := "jdk/internal/util/Preconditions", name := "checkIndex", desc := "(IILjava/util/function/BiFunction;)I" } : Jvm.MethodName) jdk_41_method_11_code (3 : Nat) (Option.some Jvm.ClassFile.FieldType.int), Jvm.Cond.code ({ cls := "com/example/schenley/schenley/Identifier", name := "isDigit", desc := "(C)Z" } : Jvm.MethodName) prog_10_method_6_code (1 : Nat) (Option.some Jvm.ClassFile.FieldType.boolean), Jvm.Cond.code ({ cls := "com/example/schenley/schenley/Identifier", name := "isPlain", desc := "(C)Z" } : Jvm.MethodName) prog_10_method_5_code (1 : Nat) (Option.some Jvm.ClassFile.FieldType.boolean), Jvm.Cond.code ({ cls := "com/example/schenley/schenley/Identifier", name := "equals", desc := "(Ljava/lang/Object;)Z" } : Jvm.MethodName) prog_10_method_3_code (3 : Nat) (Option.some Jvm.ClassFile.FieldType.boolean), Jvm.Cond.code ({ cls := "java/lang/String", name := "equals", desc := "(Ljava/lang/Object;)Z" } : Jvm.MethodName) jdk_42_method_66_code (3 : Nat) (Option.some Jvm.ClassFile.FieldType.boolean), Jvm.Cond.code ({ cls := "java/lang/StringLatin1", name := "equals", desc := "([B[B)Z" } : Jvm.MethodName) jdk_43_method_13_code (3 : Nat) (Option.some Jvm.ClassFile.FieldType.boolean)]
set_option maxRecDepth 65536 in
theorem codes_eq : words1.filter isCode = codes1 := rfl
theorem w_codes : ∀ c ∈ words1.filter isCode, c.before args0 about1 = true := by
  rw [codes_eq]
  intro c hc
  simp only [codes1, List.mem_cons, List.not_mem_nil, or_false] at hc
  rcases hc with rfl | rfl | rfl | rfl | rfl | rfl | rfl | rfl | rfl | rfl | rfl | rfl | rfl | rfl | rfl | rfl | rfl | rfl | rfl | rfl | rfl | rfl | rfl | rfl | rfl | rfl
  · exact w_c0
  · exact w_c1
  · exact w_c2
  · exact w_c3
  · exact w_c4
  · exact w_c5
  · exact w_c6
  · exact w_c7
  · exact w_c8
  · exact w_c9
  · exact w_c10
  · exact w_c11
  · exact w_c12
  · exact w_c13
  · exact w_c14
  · exact w_c15
  · exact w_c16
  · exact w_c17
  · exact w_c18
  · exact w_c19
  · exact w_c20
  · exact w_c21
  · exact w_c22
  · exact w_c23
  · exact w_c24
  · exact w_c25
set_option maxRecDepth 65536 in
theorem w_t1 : (words1.take 24).all (fun c => isCode c || c.before args0 about1) = true := by decide +kernel
set_option maxRecDepth 65536 in
theorem w_t2 : ((words1.drop 24).take 24).all (fun c => isCode c || c.before args0 about1) = true := by decide +kernel
set_option maxRecDepth 65536 in
theorem w_t3 : (((words1.drop 24).drop 24).take 24).all (fun c => isCode c || c.before args0 about1) = true := by decide +kernel
set_option maxRecDepth 65536 in
theorem w_t4 : ((((words1.drop 24).drop 24).drop 24).take 24).all (fun c => isCode c || c.before args0 about1) = true := by decide +kernel
set_option maxRecDepth 65536 in
theorem w_t5 : (((((words1.drop 24).drop 24).drop 24).drop 24).take 24).all (fun c => isCode c || c.before args0 about1) = true := by decide +kernel
set_option maxRecDepth 65536 in
theorem w_t6 : (((((words1.drop 24).drop 24).drop 24).drop 24).drop 24).all (fun c => isCode c || c.before args0 about1) = true := by decide +kernel
theorem w_tables : (allAtoms (Jvm.Cond.code x code maxLocals ret :: tables_1)).before args0 about1 = true := by
  rw [allAtoms_all]
  show words1.all (fun c => c.before args0 about1) = true
  refine all_split ?_ w_codes
  rw [← List.take_append_drop 24 words1, List.all_append, w_t1, ← List.take_append_drop 24 (words1.drop 24), List.all_append, w_t2, ← List.take_append_drop 24 ((words1.drop 24).drop 24), List.all_append, w_t3, ← List.take_append_drop 24 (((words1.drop 24).drop 24).drop 24), List.all_append, w_t4, ← List.take_append_drop 24 ((((words1.drop 24).drop 24).drop 24).drop 24), List.all_append, w_t5, w_t6]
  rfl
set_option maxRecDepth 65536 in
theorem w_rest : rest_1_c.before args0 about1 = true := by decide +kernel
set_option maxRecDepth 65536 in
theorem w_case : (Jvm.Cond.and given_1 narrow_1).before args0 about1 = true := by decide +kernel
theorem w_applies : (headSpec (Jvm.Cond.code x code maxLocals ret :: tables_1) room_1).applies x e0.platform about1 = true :=
  (Spec.applies_iff w_frames).mpr ⟨w_running, w_runnable, w_alone, w_named, w_hears, w_ripe, w_room, w_tables⟩
theorem atStart : AtStart classFile x code maxLocals ret World_1 tables_1 room_1 Calls_1 rest_1 Pre_1 launch0 p0 e0 about1 theMethod args0 below0 :=
  ⟨lists_1, trivial, launch0.admits_env _ _ _, launch0.least_env, fairChoices_fair.cas, fairChoices_fair.clock, w_frames, w_args, w_heap, w_applies, trivial, w_rest, w_case⟩
end start1
theorem witness_1 : WitnessClaimed_1 := ⟨start1.p0, start1.e0, start1.about1, start1.theMethod, start1.args0, start1.below0, start1.atStart⟩
end Jvm.Pilot.@@N@@
