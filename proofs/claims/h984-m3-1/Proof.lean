import JvmDerived
import JvmDerived.Pilot.@@N@@Statement
import JvmDerived.Pilot.@@N@@Code
set_option linter.unusedVariables false
set_option linter.unusedSimpArgs false
@@BLOCK:NumsL.lean.txt@@
/- laws to paste: Road.backV, Road.lenW, Road.chN, Road.empW, Road.codOf (cut by pick.py; bodies as the Statement names them) -/
namespace Jvm.Pilot.@@N@@
namespace StrChars
open Jvm Sem ClassFile Op Lib Jvm.Stand Jvm.Free.XT Jvm.Free.ALB Jvm.Free.JM Jvm.Free
open Jvm.Lib.Cold (StaticIs)
/-- a char array whose places are chars -/
def Ch (a : Addr) (A : Cell) (U : State) : Prop := Arr .char a A U ∧ Typed .char A
theorem Ch.mv {a : Addr} {A : Cell} {U U' : State} (h : Ch a A U) (hal : U.vm.Alike U'.vm) (hh : U'.heap = U.heap) : Ch a A U' := ⟨h.1.mv hal hh, h.2⟩
theorem Ch.keep {a : Addr} {A : Cell} {U U' : State} (h : Ch a A U) (hal : U.vm.Alike U'.vm) (hk : U'.heap[a]? = some A) : Ch a A U' := ⟨h.1.keep hal hk, h.2⟩
/-- what place i of a char[]'s cell holds -/
def cv (A : Cell) (i : Nat) : Int32 := match A.slots[i]? with | some (.int x) => x | _ => 0
theorem Ch.get {a : Addr} {A : Cell} {U : State} (h : Ch a A U) {i : Nat} (hi : i < A.slots.size) : A.slots[i]? = some (.int (cv A i)) := by
  have e := Array.getElem?_eq_getElem hi
  have f := h.2 i _ e
  unfold cv; rw [e]
  generalize A.slots[i] = v at f
  cases v <;> simp [fits] at f ⊢
/-- the byte that i2b leaves of a char -/
def lo8 (x : Int32) : Int32 := x.toInt8.toInt32
theorem fits_lo8 (y : Int32) : fits .byte (.int (lo8 y)) = true := by
  have h1 := y.toInt8.le_toInt
  have h2 := y.toInt8.toInt_lt
  simp only [lo8, fits, Bool.and_eq_true, decide_eq_true_eq, Int32.le_iff_toInt_le, Int8.toInt_toInt32, show (-128 : Int32).toInt = -128 from by decide, show (127 : Int32).toInt = 127 from by decide]
  omega
/-- A' is A but that each place j of lo .. hi - 1 holds f j -/
def Laid (A A' : Cell) (lo hi : Nat) (f : Nat → Value) : Prop := A'.cls = A.cls ∧ A'.vm = A.vm ∧ A'.slots.size = A.slots.size ∧ ∀ i, A'.slots[i]? = if lo ≤ i ∧ i < hi then some (f i) else A.slots[i]?
theorem Laid.zero (A : Cell) (lo : Nat) (f : Nat → Value) : Laid A A lo (lo + 0) f := ⟨rfl, rfl, rfl, fun i => by rw [if_neg (by omega)]⟩
theorem Laid.step {A Ak : Cell} {lo k : Nat} {f : Nat → Value} {v : Value} (h : Laid A Ak lo k f) (hlo : lo ≤ k) (hk : k < Ak.slots.size) (hv : v = f k) : Laid A (Ak.setSlot k v) lo (k + 1) f := by
  refine ⟨h.1, h.2.1, by simpa [Cell.setSlot] using h.2.2.1, fun i => ?_⟩
  by_cases e : k = i
  · subst e; rw [Cell.slots_setSlot_self v hk, if_pos (by omega), hv]
  · rw [Cell.slots_setSlot_ne v e, h.2.2.2 i]
    by_cases q : lo ≤ i ∧ i < k
    · rw [if_pos q, if_pos (by omega)]
    · rw [if_neg q, if_neg (by omega)]
def U16 : String := "java/lang/StringUTF16"
namespace Cmp5
def yN : MethodName := ⟨"java/lang/StringUTF16", "compress", "([CI[BII)I"⟩
abbrev yB : ByteArray := jdk_52_method_21_code
theorem d0 : decode yB 0 = .ok (.iconst 0, 1) := by decide +kernel
theorem d1 : decode yB 1 = .ok (.istore 5, 2) := by decide +kernel
theorem d3 : decode yB 3 = .ok (.iload 5, 2) := by decide +kernel
theorem d5 : decode yB 5 = .ok (.iload 4, 2) := by decide +kernel
theorem d7 : decode yB 7 = .ok (.if_icmp (.ge) 37, 3) := by decide +kernel
theorem d10 : decode yB 10 = .ok (.aload_n 0, 1) := by decide +kernel
theorem d11 : decode yB 11 = .ok (.iload_n 1, 1) := by decide +kernel
theorem d12 : decode yB 12 = .ok (.caload, 1) := by decide +kernel
theorem d13 : decode yB 13 = .ok (.istore 6, 2) := by decide +kernel
theorem d15 : decode yB 15 = .ok (.iload 6, 2) := by decide +kernel
theorem d17 : decode yB 17 = .ok (.sipush 255, 3) := by decide +kernel
theorem d20 : decode yB 20 = .ok (.if_icmp (.le) 6, 3) := by decide +kernel
theorem d26 : decode yB 26 = .ok (.aload_n 2, 1) := by decide +kernel
theorem d27 : decode yB 27 = .ok (.iload_n 3, 1) := by decide +kernel
theorem d28 : decode yB 28 = .ok (.iload 6, 2) := by decide +kernel
theorem d30 : decode yB 30 = .ok (.i2b, 1) := by decide +kernel
theorem d31 : decode yB 31 = .ok (.bastore, 1) := by decide +kernel
theorem d32 : decode yB 32 = .ok (.iinc 1 1, 3) := by decide +kernel
theorem d35 : decode yB 35 = .ok (.iinc 3 1, 3) := by decide +kernel
theorem d38 : decode yB 38 = .ok (.iinc 5 1, 3) := by decide +kernel
theorem d41 : decode yB 41 = .ok (.goto (-38), 3) := by decide +kernel
theorem d44 : decode yB 44 = .ok (.iload 4, 2) := by decide +kernel
theorem d46 : decode yB 46 = .ok (.ireturn, 1) := by decide +kernel
def site : List Cond := []
def tab : Cond := tabOf yN yB 7 (some .int) site
def P (b : Addr) (A : Cell) (d : Addr) (B : Cell) (o q len : Nat) (args : Array Value) (s : State) : Prop := args = #[.ref b, .int (Int32.ofNat o), .ref d, .int (Int32.ofNat q), .int (Int32.ofNat len)] ∧ Ch b A s ∧ Arr .byte d B s ∧ b ≠ d ∧ o + len ≤ A.slots.size ∧ q + len ≤ B.slots.size ∧ ∀ i, i < len → ¬ 255 < cv A (o + i)
def E (b : Addr) (A : Cell) (d : Addr) (B : Cell) (o q len : Nat) (r : Option Value) (s u : State) : Prop := r = some (.int (Int32.ofNat len)) ∧ ∃ B', Put d B' s u ∧ Laid B B' q (q + len) (fun j => Value.int (lo8 (cv A (o + (j - q)))))
/-- no char of the range above 255: len; the places written hold each char's low byte -/
theorem law (l : Launch) (b : Addr) (A : Cell) (d : Addr) (B : Cell) (o q len : Nat) : Law l yN 5 5 0 0 yB 7 (some .int) site (P b A d B o q len) (E b A d B o q len) (copyLocs d q len) 0 0 := by
  refine Law.of_walk (plainFor_of_name (by decide +kernel)) (by decide +kernel) (by decide +kernel) (by decide) (fun _ _ h => by rw [h.1]; rfl) (fun _ U U' hal hh h => ⟨h.1, h.2.1.mv hal hh, h.2.2.1.mv hal hh, h.2.2.2⟩) (fun r U U' V V' h1 hal h2 h => ⟨h.1, h.2.elim fun B' q => ⟨B', q.1.mv h1 h2, q.2⟩⟩) ?_
  intro p e s m args below meth c s₁ X0 hexec hbytes hml hret hlk hnm hown hh0 W hP
  obtain ⟨rfl, hA, hB, hne, l1, l2, hp⟩ := hP
  have c1 : Steps p.tables e below (s₁.setTop (entryFrame m #[.ref b, .int (Int32.ofNat o), .ref d, .int (Int32.ofNat q), .int (Int32.ofNat len)] 7)) (s₁.setTop (mkF m 0 #[.val (.ref b), .val (.int (Int32.ofNat o)), .val (.ref d), .val (.int (Int32.ofNat q)), .val (.int (Int32.ofNat len)), .unset, .unset] [])) := entry rfl
  have hA0 := hA.1.mv X0.warmed.alike hh0
  have hB0 := hB.mv X0.warmed.alike hh0
  have a31 := hA.1.2.2.2
  have c2 : Steps p.tables e below (s₁.setTop (entryFrame m #[.ref b, .int (Int32.ofNat o), .ref d, .int (Int32.ofNat q), .int (Int32.ofNat len)] 7)) (s₁.setTop (mkF m 3 #[.val (.ref b), .val (.int (Int32.ofNat o)), .val (.ref d), .val (.int (Int32.ofNat q)), .val (.int (Int32.ofNat len)), .val (.int 0), .unset] [])) := c1.trans (by
    refine iconstV X0.here hexec rfl 0 (hb hbytes d0) (by decide) ?_
    refine XS.istore X0.here hexec rfl (hb hbytes d1) rfl rfl ?_
    exact Steps.refl _)
  have loop : ∀ (r i : Nat), i + r = len → ∀ (z : Slot), (z = .unset ∨ ∃ w, z = .val w ∧ w.category = 1) → ∀ (Tl : State) (Bk : Cell), Stand p l e { frames := 0, locals := 0, cells := 0, slots := 0 } s m #[.ref b, .int (Int32.ofNat o), .ref d, .int (Int32.ofNat q), .int (Int32.ofNat len)] below meth c Tl ([] ++ copyLocs d q i) 0 0 → Put d Bk s₁ Tl → Laid B Bk q (q + i) (fun j => Value.int (lo8 (cv A (o + (j - q))))) →
      Steps p.tables e below (s₁.setTop (entryFrame m #[.ref b, .int (Int32.ofNat o), .ref d, .int (Int32.ofNat q), .int (Int32.ofNat len)] 7)) (Tl.setTop (mkF m 3 #[.val (.ref b), .val (.int (Int32.ofNat (o + i))), .val (.ref d), .val (.int (Int32.ofNat (q + i))), .val (.int (Int32.ofNat len)), .val (.int (Int32.ofNat i)), z] [])) → ∃ (T' : State) (B' : Cell) (z' : Slot), Stand p l e { frames := 0, locals := 0, cells := 0, slots := 0 } s m #[.ref b, .int (Int32.ofNat o), .ref d, .int (Int32.ofNat q), .int (Int32.ofNat len)] below meth c T' ([] ++ copyLocs d q len) 0 0 ∧ Put d B' s₁ T' ∧ Laid B B' q (q + len) (fun j => Value.int (lo8 (cv A (o + (j - q))))) ∧
      Steps p.tables e below (s₁.setTop (entryFrame m #[.ref b, .int (Int32.ofNat o), .ref d, .int (Int32.ofNat q), .int (Int32.ofNat len)] 7)) (T'.setTop (mkF m 3 #[.val (.ref b), .val (.int (Int32.ofNat (o + len))), .val (.ref d), .val (.int (Int32.ofNat (q + len))), .val (.int (Int32.ofNat len)), .val (.int (Int32.ofNat len)), z'] [])) := by
    intro r
    induction r with
    | zero =>
      intro i hi z hz Tl Bk Xl pl fl cl
      have hil : i = len := by omega
      rw [hil] at Xl fl cl
      exact ⟨Tl, Bk, z, Xl, pl, fl, cl⟩
    | succ r ih =>
      intro i hi z hz Tl Bk Xl pl fl cl
      have all := X0.warmed.alike.symm.trans Xl.warmed.alike
      have hAl := hA0.keep all (pl.other hne hA0.1)
      have hBk := hB0.like all pl.1 fl.1 fl.2.1 fl.2.2.1
      have hlt : q + i < Bk.slots.size := by rw [fl.2.2.1]; omega
      have c3 : Steps p.tables e below (s₁.setTop (entryFrame m #[.ref b, .int (Int32.ofNat o), .ref d, .int (Int32.ofNat q), .int (Int32.ofNat len)] 7)) (Tl.setTop (mkF m 12 #[.val (.ref b), .val (.int (Int32.ofNat (o + i))), .val (.ref d), .val (.int (Int32.ofNat (q + i))), .val (.int (Int32.ofNat len)), .val (.int (Int32.ofNat i)), z] [.int (Int32.ofNat (o + i)), .ref b])) := cl.trans (by
        refine XS.iload Xl.here hexec rfl (hb hbytes d3) rfl ?_
        refine XS.iload Xl.here hexec rfl (hb hbytes d5) rfl ?_
        refine XS.icmpNo Xl.here hexec rfl (hb hbytes d7) rfl (ii_ge_f (lt32 (by omega) (by omega))) ?_
        refine XS.aloadN Xl.here hexec rfl (hb hbytes d10) rfl rfl ?_
        refine XS.iloadN Xl.here hexec rfl (hb hbytes d11) rfl ?_
        exact Steps.refl _)
      have c4 : Steps p.tables e below (s₁.setTop (entryFrame m #[.ref b, .int (Int32.ofNat o), .ref d, .int (Int32.ofNat q), .int (Int32.ofNat len)] 7)) (Tl.setTop (mkF m 13 #[.val (.ref b), .val (.int (Int32.ofNat (o + i))), .val (.ref d), .val (.int (Int32.ofNat (q + i))), .val (.int (Int32.ofNat len)), .val (.int (Int32.ofNat i)), z] [.int (cv A (o + i))])) := c3.trans (by
        refine Xl.aget hexec hAl rfl (hA.get (i := o + i) (by omega)) rfl rfl (hb hbytes d12) ?_
        exact Steps.refl _)
      have c5 : Steps p.tables e below (s₁.setTop (entryFrame m #[.ref b, .int (Int32.ofNat o), .ref d, .int (Int32.ofNat q), .int (Int32.ofNat len)] 7)) (Tl.setTop (mkF m 15 #[.val (.ref b), .val (.int (Int32.ofNat (o + i))), .val (.ref d), .val (.int (Int32.ofNat (q + i))), .val (.int (Int32.ofNat len)), .val (.int (Int32.ofNat i)), .val (.int (cv A (o + i)))] [])) := c4.trans (by
        refine XS.istoreS Xl.here hexec rfl (hb hbytes d13) rfl rfl hz ?_
        exact Steps.refl _)
      have c6 : Steps p.tables e below (s₁.setTop (entryFrame m #[.ref b, .int (Int32.ofNat o), .ref d, .int (Int32.ofNat q), .int (Int32.ofNat len)] 7)) (Tl.setTop (mkF m 31 #[.val (.ref b), .val (.int (Int32.ofNat (o + i))), .val (.ref d), .val (.int (Int32.ofNat (q + i))), .val (.int (Int32.ofNat len)), .val (.int (Int32.ofNat i)), .val (.int (cv A (o + i)))] [.int (lo8 (cv A (o + i))), .int (Int32.ofNat (q + i)), .ref d])) := c5.trans (by
        refine XS.iload Xl.here hexec rfl (hb hbytes d15) rfl ?_
        refine sipushV Xl.here hexec rfl 255 (hb hbytes d17) (by decide) ?_
        refine XS.icmpYes Xl.here hexec rfl (pc0 := 20) rfl (hb hbytes d20) rfl (ii_le_t (hp i (by omega))) (by decide) rfl ?_
        refine XS.aloadN Xl.here hexec rfl (hb hbytes d26) rfl rfl ?_
        refine XS.iloadN Xl.here hexec rfl (hb hbytes d27) rfl ?_
        refine XS.iload Xl.here hexec rfl (hb hbytes d28) rfl ?_
        refine i2b Xl.here hexec rfl (hb hbytes d30) rfl ?_
        exact Steps.refl _)
      obtain ⟨T7, X7, p7, st7⟩ := Xl.aput hexec hBk rfl hlt rfl (fits_lo8 (cv A (o + i))) (g := (mkF m 31 #[.val (.ref b), .val (.int (Int32.ofNat (o + i))), .val (.ref d), .val (.int (Int32.ofNat (q + i))), .val (.int (Int32.ofNat len)), .val (.int (Int32.ofNat i)), .val (.int (cv A (o + i)))] [.int (lo8 (cv A (o + i))), .int (Int32.ofNat (q + i)), .ref d])) rfl (rest := []) rfl (hb hbytes d31)
      have c8 : Steps p.tables e below (s₁.setTop (entryFrame m #[.ref b, .int (Int32.ofNat o), .ref d, .int (Int32.ofNat q), .int (Int32.ofNat len)] 7)) (T7.setTop (mkF m 32 #[.val (.ref b), .val (.int (Int32.ofNat (o + i))), .val (.ref d), .val (.int (Int32.ofNat (q + i))), .val (.int (Int32.ofNat len)), .val (.int (Int32.ofNat i)), .val (.int (cv A (o + i)))] [])) := c6.trans (st7 _ (Steps.refl _))
      have c9 : Steps p.tables e below (s₁.setTop (entryFrame m #[.ref b, .int (Int32.ofNat o), .ref d, .int (Int32.ofNat q), .int (Int32.ofNat len)] 7)) (T7.setTop (mkF m 3 #[.val (.ref b), .val (.int (Int32.ofNat (o + i) + 1)), .val (.ref d), .val (.int (Int32.ofNat (q + i) + 1)), .val (.int (Int32.ofNat len)), .val (.int (Int32.ofNat i + 1)), .val (.int (cv A (o + i)))] [])) := c8.trans (by
        refine iincV X7.here hexec rfl 1 (hb hbytes d32) (by decide) rfl rfl ?_
        refine iincV X7.here hexec rfl 1 (hb hbytes d35) (by decide) rfl rfl ?_
        refine iincV X7.here hexec rfl 1 (hb hbytes d38) (by decide) rfl rfl ?_
        refine XS.goto X7.here hexec rfl (pc0 := 41) rfl (hb hbytes d41) (by decide) rfl ?_
        exact Steps.refl _)
      have c10 : Steps p.tables e below (s₁.setTop (entryFrame m #[.ref b, .int (Int32.ofNat o), .ref d, .int (Int32.ofNat q), .int (Int32.ofNat len)] 7)) (T7.setTop (mkF m 3 #[.val (.ref b), .val (.int (Int32.ofNat (o + (i + 1)))), .val (.ref d), .val (.int (Int32.ofNat (q + (i + 1)))), .val (.int (Int32.ofNat len)), .val (.int (Int32.ofNat (i + 1))), .val (.int (cv A (o + i)))] [])) := by
        have := c9
        rw [succ32, succ32, succ32] at this
        exact this
      exact ih (i + 1) (by omega) _ (Or.inr ⟨_, rfl, rfl⟩) T7 _ (by rw [copyLocs_step, ← List.append_assoc]; exact X7) (pl.trans p7) (fl.step (by omega) hlt (by simp)) c10
  obtain ⟨T9, B9, z9, X9, p9, f9, g9⟩ := loop len 0 (by omega) .unset (Or.inl rfl) s₁ B (by simpa [copyLocs] using X0) ⟨hB0.1, fun _ _ => rfl, rfl⟩ (Laid.zero _ _ _) c2
  have c11 : Steps p.tables e below (s₁.setTop (entryFrame m #[.ref b, .int (Int32.ofNat o), .ref d, .int (Int32.ofNat q), .int (Int32.ofNat len)] 7)) (T9.setTop (mkF m 46 #[.val (.ref b), .val (.int (Int32.ofNat (o + len))), .val (.ref d), .val (.int (Int32.ofNat (q + len))), .val (.int (Int32.ofNat len)), .val (.int (Int32.ofNat len)), z9] [.int (Int32.ofNat len)])) := g9.trans (by
    refine XS.iload X9.here hexec rfl (hb hbytes d3) rfl ?_
    refine XS.iload X9.here hexec rfl (hb hbytes d5) rfl ?_
    refine XS.icmpYes X9.here hexec rfl (pc0 := 7) rfl (hb hbytes d7) rfl (ii_ge_t (nlt32 (by omega) (Nat.le_refl _))) (by decide) rfl ?_
    refine XS.iload X9.here hexec rfl (hb hbytes d44) rfl ?_
    exact Steps.refl _)
  exact ⟨T9, some (.int (Int32.ofNat len)), _, _, _, X9, by simp, rfl, rfl, (fun h => by cases h), ⟨rfl, B9, p9.from hh0, f9⟩, fun fs hl => c11.trans (X9.ireturnOut hexec hret rfl (Or.inl rfl) (hb hbytes d46) hl)⟩
end Cmp5
namespace Cmp3
def yN : MethodName := ⟨"java/lang/StringUTF16", "compress", "([CII)[B"⟩
abbrev yB : ByteArray := jdk_52_method_16_code
theorem d0 : decode yB 0 = .ok (.iload_n 2, 1) := by decide +kernel
theorem d1 : decode yB 1 = .ok (.newarray .byte, 2) := by decide +kernel
theorem d3 : decode yB 3 = .ok (.astore_n 3, 1) := by decide +kernel
theorem d4 : decode yB 4 = .ok (.aload_n 0, 1) := by decide +kernel
theorem d5 : decode yB 5 = .ok (.iload_n 1, 1) := by decide +kernel
theorem d6 : decode yB 6 = .ok (.aload_n 3, 1) := by decide +kernel
theorem d7 : decode yB 7 = .ok (.iconst 0, 1) := by decide +kernel
theorem d8 : decode yB 8 = .ok (.iload_n 2, 1) := by decide +kernel
theorem d9 : decode yB 9 = .ok (.invokestatic 115, 3) := by decide +kernel
theorem d12 : decode yB 12 = .ok (.istore 4, 2) := by decide +kernel
theorem d14 : decode yB 14 = .ok (.iload 4, 2) := by decide +kernel
theorem d16 : decode yB 16 = .ok (.iload_n 2, 1) := by decide +kernel
theorem d17 : decode yB 17 = .ok (.if_icmp (.eq) 40, 3) := by decide +kernel
theorem d57 : decode yB 57 = .ok (.aload_n 3, 1) := by decide +kernel
theorem d58 : decode yB 58 = .ok (.areturn, 1) := by decide +kernel
def site : List Cond := [.arrayClass .byte, Cmp5.tab] ++ staticW U16 115 Cmp5.yN
def tab : Cond := tabOf yN yB 6 (some (.array .byte)) site
def P (b : Addr) (A : Cell) (o len : Nat) (args : Array Value) (s : State) : Prop := args = #[.ref b, .int (Int32.ofNat o), .int (Int32.ofNat len)] ∧ Ch b A s ∧ o + len ≤ A.slots.size ∧ len ≤ 536870912 ∧ ∀ i, i < len → ¬ 255 < cv A (o + i)
def E (b : Addr) (A : Cell) (o len : Nat) (r : Option Value) (s u : State) : Prop := NewArr .byte "[B" len (fun j => .int (lo8 (cv A (o + j)))) r s u ∧ u.heap.size = s.heap.size + 1
/-- no char of the range above 255: a new byte[] of their low bytes -/
theorem law (l : Launch) (b : Addr) (A : Cell) (o len : Nat) : Law l yN 3 3 1 18 yB 6 (some (.array .byte)) site (P b A o len) (E b A o len) [] 1 len := by
  refine Law.of_walk (plainFor_of_name (by decide +kernel)) (by decide +kernel) (by decide +kernel) (by decide) (fun _ _ h => by rw [h.1]; rfl) (fun _ U U' hal hh h => ⟨h.1, h.2.1.mv hal hh, h.2.2⟩) (fun r U U' V V' h1 hal h2 h => ⟨NewArr.mv r U U' V V' h1 hal h2 h.1, by rw [h1, h2]; exact h.2⟩) ?_
  intro p e s m args below meth c s₁ X0 hexec hbytes hml hret hlk hnm hown hh0 W hP
  obtain ⟨rfl, hA, l1, l2, hp⟩ := hP
  have a31 := hA.1.2.2.2
  have c1 : Steps p.tables e below (s₁.setTop (entryFrame m #[.ref b, .int (Int32.ofNat o), .int (Int32.ofNat len)] 6)) (s₁.setTop (mkF m 0 #[.val (.ref b), .val (.int (Int32.ofNat o)), .val (.int (Int32.ofNat len)), .unset, .unset, .unset] [])) := entry rfl
  have c2 : Steps p.tables e below (s₁.setTop (entryFrame m #[.ref b, .int (Int32.ofNat o), .int (Int32.ofNat len)] 6)) (s₁.setTop (mkF m 1 #[.val (.ref b), .val (.int (Int32.ofNat o)), .val (.int (Int32.ofNat len)), .unset, .unset, .unset] [.int (Int32.ofNat len)])) := c1.trans (by
    refine XS.iloadN X0.here hexec rfl (hb hbytes d0) rfl ?_
    exact Steps.refl _)
  obtain ⟨T3, B3, X3, ba3, bs3, bv3, bh3, bf3, st3⟩ := X0.anew hexec (atype := .byte) (wk W (.arrayClass .byte)) rfl (by show len * 1 ≤ _; omega) (by omega) (g := (mkF m 1 #[.val (.ref b), .val (.int (Int32.ofNat o)), .val (.int (Int32.ofNat len)), .unset, .unset, .unset] [.int (Int32.ofNat len)])) rfl (hb hbytes d1) (rest := []) rfl (Nat.le_refl _) (by show 0 + len ≤ len; omega)
  rw [hh0] at ba3 st3
  have kp3 : XT.Kept s T3 := (XT.Kept.of_eq hh0).push bh3
  have hA3 := hA.keep X3.warmed.alike (kp3 _ _ hA.1.1)
  have hne : b ≠ s.heap.size := hA.1.ne
  have c4 : Steps p.tables e below (s₁.setTop (entryFrame m #[.ref b, .int (Int32.ofNat o), .int (Int32.ofNat len)] 6)) (T3.setTop (mkF m 3 #[.val (.ref b), .val (.int (Int32.ofNat o)), .val (.int (Int32.ofNat len)), .unset, .unset, .unset] [.ref s.heap.size])) := c2.trans (st3 _ (Steps.refl _))
  have c5 : Steps p.tables e below (s₁.setTop (entryFrame m #[.ref b, .int (Int32.ofNat o), .int (Int32.ofNat len)] 6)) (T3.setTop (mkF m 9 #[.val (.ref b), .val (.int (Int32.ofNat o)), .val (.int (Int32.ofNat len)), .val (.ref s.heap.size), .unset, .unset] [.int (Int32.ofNat len), .int 0, .ref s.heap.size, .int (Int32.ofNat o), .ref b])) := c4.trans (by
    refine XS.astoreN X3.here hexec rfl (hb hbytes d3) rfl rfl rfl ?_
    refine XS.aloadN X3.here hexec rfl (hb hbytes d4) rfl rfl ?_
    refine XS.iloadN X3.here hexec rfl (hb hbytes d5) rfl ?_
    refine XS.aloadN X3.here hexec rfl (hb hbytes d6) rfl rfl ?_
    refine iconstV X3.here hexec rfl 0 (hb hbytes d7) (by decide) ?_
    refine XS.iloadN X3.here hexec rfl (hb hbytes d8) rfl ?_
    exact Steps.refl _)
  obtain ⟨v6, T6, X6, E6, g6⟩ := X3.callS hexec (Cmp5.law l b A s.heap.size B3 o 0 len) hown (wks W (staticW U16 115 Cmp5.yN)) (wk W Cmp5.tab) (W := 0) (Nat.le_of_ble_eq_true rfl) (Nat.le_of_ble_eq_true rfl) (Nat.le_refl _) (by show 0 + len + 0 ≤ len; omega) (g := (mkF m 9 #[.val (.ref b), .val (.int (Int32.ofNat o)), .val (.int (Int32.ofNat len)), .val (.ref s.heap.size), .unset, .unset] [.int (Int32.ofNat len), .int (Int32.ofNat 0), .ref s.heap.size, .int (Int32.ofNat o), .ref b])) rfl (by rw [hml]; rfl) c5 (argsL := [.ref b, .int (Int32.ofNat o), .ref s.heap.size, .int (Int32.ofNat 0), .int (Int32.ofNat len)]) (rest := []) rfl rfl (by show 2 * 0 + 0 ≤ _; decide) (hb hbytes d9) (⟨rfl, hA3, ba3, hne, l1, by rw [bs3]; simp, hp⟩)
  obtain ⟨rfl, B6, p6, f6⟩ := E6
  have c7 : Steps p.tables e below (s₁.setTop (entryFrame m #[.ref b, .int (Int32.ofNat o), .int (Int32.ofNat len)] 6)) (T6.setTop (mkF m 12 #[.val (.ref b), .val (.int (Int32.ofNat o)), .val (.int (Int32.ofNat len)), .val (.ref s.heap.size), .unset, .unset] [.int (Int32.ofNat len)])) := g6
  have c8 : Steps p.tables e below (s₁.setTop (entryFrame m #[.ref b, .int (Int32.ofNat o), .int (Int32.ofNat len)] 6)) (T6.setTop (mkF m 58 #[.val (.ref b), .val (.int (Int32.ofNat o)), .val (.int (Int32.ofNat len)), .val (.ref s.heap.size), .val (.int (Int32.ofNat len)), .unset] [.ref s.heap.size])) := c7.trans (by
    refine XS.istore X6.here hexec rfl (hb hbytes d12) rfl rfl ?_
    refine XS.iload X6.here hexec rfl (hb hbytes d14) rfl ?_
    refine XS.iloadN X6.here hexec rfl (hb hbytes d16) rfl ?_
    refine XS.icmpYes X6.here hexec rfl (pc0 := 17) rfl (hb hbytes d17) rfl (ii_eq_t rfl) (by decide) rfl ?_
    refine XS.aloadN X6.here hexec rfl (hb hbytes d57) rfl rfl ?_
    exact Steps.refl _)
  have X8 := X6.wide (L' := []) (cells' := 1) (slots' := len) (fun x hx hlt => by
    simp only [List.nil_append, copyLocs, List.mem_map, List.mem_range] at hx
    obtain ⟨i, -, rfl⟩ := hx
    exact absurd hlt (Nat.lt_irrefl _)) (Nat.le_refl _) (by omega)
  exact ⟨T6, some (.ref s.heap.size), _, _, _, X8, rfl, rfl, rfl, (fun h => by cases h), ⟨⟨rfl, B6, ba3.like (X3.warmed.alike.symm.trans X6.warmed.alike) p6.1 f6.1 f6.2.1 f6.2.2.1, f6.2.1.trans bv3, by rw [X6.warmed.alike.findClass, f6.1]; exact bf3, by rw [f6.2.2.1, bs3]; simp, fun j hj => by rw [f6.2.2.2 j, if_pos (by omega)]; rfl, kp3.put p6 (Nat.le_refl _)⟩, by rw [p6.2.2, bh3, hh0]; simp⟩, fun fs hl => c8.trans (X8.areturnOut hexec rfl hret rfl (hb hbytes d58) hl)⟩
end Cmp3
namespace CodL
def yN : MethodName := ⟨"java/lang/StringUTF16", "coderFromArrayLen", "([BI)B"⟩
abbrev yB : ByteArray := jdk_52_method_15_code
theorem d0 : decode yB 0 = .ok (.iload_n 1, 1) := by decide +kernel
theorem d1 : decode yB 1 = .ok (.aload_n 0, 1) := by decide +kernel
theorem d2 : decode yB 2 = .ok (.arraylength, 1) := by decide +kernel
theorem d3 : decode yB 3 = .ok (.isub, 1) := by decide +kernel
theorem d4 : decode yB 4 = .ok (.bipush 31, 2) := by decide +kernel
theorem d6 : decode yB 6 = .ok (.iushr, 1) := by decide +kernel
theorem d7 : decode yB 7 = .ok (.i2b, 1) := by decide +kernel
theorem d8 : decode yB 8 = .ok (.ireturn, 1) := by decide +kernel
def site : List Cond := []
def tab : Cond := tabOf yN yB 2 (some .byte) site
def P (d : Addr) (B : Cell) (args : Array Value) (s : State) : Prop := args = #[.ref d, .int (Int32.ofNat B.slots.size)] ∧ Arr .byte d B s
def E (r : Option Value) (s u : State) : Prop := XT.PureE (some (.int 0)) r s u
/-- an array as long as the number of chars: LATIN1 -/
theorem law (l : Launch) (d : Addr) (B : Cell) : Law l yN 2 2 0 0 yB 2 (some .byte) site (P d B) E [] 0 0 := by
  refine Law.of_walk (plainFor_of_name (by decide +kernel)) (by decide +kernel) (by decide +kernel) (by decide) (fun _ _ h => by rw [h.1]; rfl) (fun _ U U' hal hh h => ⟨h.1, h.2.mv hal hh⟩) (fun r U U' V V' h1 hal h2 h => XT.PureE.mv r U U' V V' h1 hal h2 h) ?_
  intro p e s m args below meth c s₁ X0 hexec hbytes hml hret hlk hnm hown hh0 W hP
  obtain ⟨rfl, hB⟩ := hP
  have hB0 := hB.mv X0.warmed.alike hh0
  have c1 : Steps p.tables e below (s₁.setTop (entryFrame m #[.ref d, .int (Int32.ofNat B.slots.size)] 2)) (s₁.setTop (mkF m 0 #[.val (.ref d), .val (.int (Int32.ofNat B.slots.size))] [])) := entry rfl
  have c2 : Steps p.tables e below (s₁.setTop (entryFrame m #[.ref d, .int (Int32.ofNat B.slots.size)] 2)) (s₁.setTop (mkF m 2 #[.val (.ref d), .val (.int (Int32.ofNat B.slots.size))] [.ref d, .int (Int32.ofNat B.slots.size)])) := c1.trans (by
    refine XS.iloadN X0.here hexec rfl (hb hbytes d0) rfl ?_
    refine XS.aloadN X0.here hexec rfl (hb hbytes d1) rfl rfl ?_
    exact Steps.refl _)
  have c3 : Steps p.tables e below (s₁.setTop (entryFrame m #[.ref d, .int (Int32.ofNat B.slots.size)] 2)) (s₁.setTop (mkF m 8 #[.val (.ref d), .val (.int (Int32.ofNat B.slots.size))] [.int (lo8 (ushr (Int32.ofNat B.slots.size - Int32.ofNat B.slots.size) 31))])) := c2.trans (by
    refine X0.alen hexec hB0 rfl rfl (hb hbytes d2) ?_
    refine XS.isub X0.here hexec rfl (hb hbytes d3) rfl ?_
    refine bipushV X0.here hexec rfl 31 (hb hbytes d4) (by decide) ?_
    refine iushr X0.here hexec rfl (hb hbytes d6) rfl ?_
    refine i2b X0.here hexec rfl (hb hbytes d7) rfl ?_
    exact Steps.refl _)
  have e0 : lo8 (ushr (Int32.ofNat B.slots.size - Int32.ofNat B.slots.size) 31) = 0 := by rw [Int32.sub_self]; decide
  rw [e0] at c3
  exact ⟨s₁, some (.int 0), _, _, _, X0, rfl, rfl, rfl, (fun h => by cases h), ⟨rfl, hh0⟩, fun fs hl => c3.trans (X0.ireturnOut hexec hret rfl (Or.inr (Or.inr (Or.inl rfl))) (hb hbytes d8) hl)⟩
end CodL
/-- the String at a is Latin-1 over a new byte[] (the heap's one new cell): the low bytes of the len chars of A from o on; every cell but a is kept -/
def Got (a : Addr) (D : Cell) (fV fC : Field) (A : Cell) (o len : Nat) (r : Option Value) (s u : State) : Prop := r = none ∧ ∃ D' V : Cell, Blank "java/lang/String" a D' u ∧ Same D D' [fV.slot, fC.slot] ∧ D'.slots[fV.slot]? = some (.ref s.heap.size) ∧ D'.slots[fC.slot]? = some (.int 0) ∧ Arr .byte s.heap.size V u ∧ V.vm = .none ∧ u.vm.findClass "[B" = some V.cls ∧ V.slots.size = len ∧ (∀ j, j < len → V.slots[j]? = some (.int (lo8 (cv A (o + j))))) ∧ (∀ (y : Addr) (c : Cell), y ≠ a → s.heap[y]? = some c → u.heap[y]? = some c) ∧ u.heap.size = s.heap.size + 1
theorem Got.mv {a : Addr} {D A : Cell} {fV fC : Field} {o len : Nat} : ∀ r (U U' V V' : State), U'.heap = U.heap → V.vm.Alike V'.vm → V'.heap = V.heap → Got a D fV fC A o len r U V → Got a D fV fC A o len r U' V' :=
  fun r U U' V V' h1 hal h2 ⟨e0, D', X, a1, a2, a3, a4, a5, a6, a7, a8, a9, a10, a11⟩ => ⟨e0, D', X, a1.mv hal h2, a2, by rw [h1]; exact a3, a4, by rw [h1]; exact a5.mv hal h2, a6, by rw [hal.findClass]; exact a7, a8, a9, by rw [h1, h2]; exact a10, by rw [h1, h2]; exact a11⟩
namespace New4
def yN : MethodName := ⟨"java/lang/String", "<init>", "([CIILjava/lang/Void;)V"⟩
abbrev yB : ByteArray := jdk_42_method_149_code
theorem d0 : decode yB 0 = .ok (.aload_n 0, 1) := by decide +kernel
theorem d1 : decode yB 1 = .ok (.invokespecial 1, 3) := by decide +kernel
theorem d4 : decode yB 4 = .ok (.iload_n 3, 1) := by decide +kernel
theorem d5 : decode yB 5 = .ok (.ifCond (.ne) 22, 3) := by decide +kernel
theorem d27 : decode yB 27 = .ok (.getstatic 38, 3) := by decide +kernel
theorem d30 : decode yB 30 = .ok (.ifCond (.eq) 28, 3) := by decide +kernel
theorem d33 : decode yB 33 = .ok (.aload_n 1, 1) := by decide +kernel
theorem d34 : decode yB 34 = .ok (.iload_n 2, 1) := by decide +kernel
theorem d35 : decode yB 35 = .ok (.iload_n 3, 1) := by decide +kernel
theorem d36 : decode yB 36 = .ok (.invokestatic 177, 3) := by decide +kernel
theorem d39 : decode yB 39 = .ok (.astore 5, 2) := by decide +kernel
theorem d41 : decode yB 41 = .ok (.aload_n 0, 1) := by decide +kernel
theorem d42 : decode yB 42 = .ok (.aload 5, 2) := by decide +kernel
theorem d44 : decode yB 44 = .ok (.iload_n 3, 1) := by decide +kernel
theorem d45 : decode yB 45 = .ok (.invokestatic 47, 3) := by decide +kernel
theorem d48 : decode yB 48 = .ok (.putfield 15, 3) := by decide +kernel
theorem d51 : decode yB 51 = .ok (.aload_n 0, 1) := by decide +kernel
theorem d52 : decode yB 52 = .ok (.aload 5, 2) := by decide +kernel
theorem d54 : decode yB 54 = .ok (.putfield 9, 3) := by decide +kernel
theorem d57 : decode yB 57 = .ok (.return_, 1) := by decide +kernel
def site : List Cond := [.fieldLink "java/lang/String" 38 "java/lang/String" "COMPACT_STRINGS" "Z", Cmp3.tab, CodL.tab, .laysFinal "java/lang/String" "java/lang/String" "value" "[B", .fieldLink "java/lang/String" 9 "java/lang/String" "value" "[B", .laysFinal "java/lang/String" "java/lang/String" "coder" "B", .fieldLink "java/lang/String" 15 "java/lang/String" "coder" "B"] ++ objW "java/lang/String" 1 ++ staticW "java/lang/String" 177 Cmp3.yN ++ staticW "java/lang/String" 47 CodL.yN
def tab : Cond := tabOf yN yB 6 none site
def P (a : Addr) (D : Cell) (fV fC : Field) (b : Addr) (A : Cell) (z : Int32) (o len : Nat) (args : Array Value) (s : State) : Prop := args = #[.ref a, .ref b, .int (Int32.ofNat o), .int (Int32.ofNat len), .null] ∧ Blank "java/lang/String" a D s ∧ Found "java/lang/String" "value" "[B" fV s ∧ Found "java/lang/String" "coder" "B" fC s ∧ Ch b A s ∧ StaticIs s "java/lang/String" "COMPACT_STRINGS" "Z" (.int z) ∧ ¬ z = 0 ∧ 0 < len ∧ o + len ≤ A.slots.size ∧ len ≤ 536870912 ∧ ∀ i, i < len → ¬ 255 < cv A (o + i)
def E (a : Addr) (D : Cell) (fV fC : Field) (A : Cell) (o len : Nat) (r : Option Value) (s u : State) : Prop := Got a D fV fC A o len r s u
/-- len > 0, no char of the range above 255: a Latin-1 String of their low bytes -/
theorem law (l : Launch) (a : Addr) (D : Cell) (fV fC : Field) (b : Addr) (A : Cell) (z : Int32) (o len : Nat) : Law l yN 5 4 2 35 yB 6 none site (P a D fV fC b A z o len) (E a D fV fC A o len) [⟨a, fC.slot⟩, ⟨a, fV.slot⟩] 1 len := by
  refine Law.of_walk (plainFor_of_name (by decide +kernel)) (by decide +kernel) (by decide +kernel) (by decide) (fun _ _ h => by rw [h.1]; rfl) (fun _ U U' hal hh h => ⟨h.1, h.2.1.mv hal hh, h.2.2.1.al hal, h.2.2.2.1.al hal, h.2.2.2.2.1.mv hal hh, h.2.2.2.2.2.1.there hal hh, h.2.2.2.2.2.2⟩) (fun r U U' V V' h1 hal h2 h => Got.mv r U U' V V' h1 hal h2 h) ?_
  intro p e s m args below meth c s₁ X0 hexec hbytes hml hret hlk hnm hown hh0 W hP
  obtain ⟨rfl, hB, f1, f2, hA, s1, hz, l0, l1, l2, hp⟩ := hP
  have a31 := hA.1.2.2.2
  have c1 : Steps p.tables e below (s₁.setTop (entryFrame m #[.ref a, .ref b, .int (Int32.ofNat o), .int (Int32.ofNat len), .null] 6)) (s₁.setTop (mkF m 0 #[.val (.ref a), .val (.ref b), .val (.int (Int32.ofNat o)), .val (.int (Int32.ofNat len)), .val .null, .unset] [])) := entry rfl
  have c2 : Steps p.tables e below (s₁.setTop (entryFrame m #[.ref a, .ref b, .int (Int32.ofNat o), .int (Int32.ofNat len), .null] 6)) (s₁.setTop (mkF m 1 #[.val (.ref a), .val (.ref b), .val (.int (Int32.ofNat o)), .val (.int (Int32.ofNat len)), .val .null, .unset] [.ref a])) := c1.trans (by
    refine XS.aloadN X0.here hexec rfl (hb hbytes d0) rfl rfl ?_
    exact Steps.refl _)
  obtain ⟨T3, X3, q3, st3⟩ := X0.oinit hexec hown (wks W (objW "java/lang/String" 1)) (g := (mkF m 1 #[.val (.ref a), .val (.ref b), .val (.int (Int32.ofNat o)), .val (.int (Int32.ofNat len)), .val .null, .unset] [.ref a])) rfl (by rw [hml]; rfl) (rest := []) rfl (hb hbytes d1) (W := 0) (by show 2 * 0 + 0 ≤ _; decide) (Nat.le_of_ble_eq_true rfl) (Nat.le_of_ble_eq_true rfl)
  have hh3 := q3.trans hh0
  have c4 : Steps p.tables e below (s₁.setTop (entryFrame m #[.ref a, .ref b, .int (Int32.ofNat o), .int (Int32.ofNat len), .null] 6)) (T3.setTop (mkF m 27 #[.val (.ref a), .val (.ref b), .val (.int (Int32.ofNat o)), .val (.int (Int32.ofNat len)), .val .null, .unset] [])) := (c2.trans (st3 _ (Steps.refl _))).trans (by
    refine XS.iloadN X3.here hexec rfl (hb hbytes d4) rfl ?_
    refine XS.ifYes X3.here hexec rfl (pc0 := 5) rfl (hb hbytes d5) rfl (i0_ne_t (nz32 (by omega) l0)) (by decide) rfl ?_
    exact Steps.refl _)
  obtain ⟨T5, X5, q5, st5⟩ := X3.sget hexec hown (wk W (.fieldLink "java/lang/String" 38 "java/lang/String" "COMPACT_STRINGS" "Z")) s1 (fun _ _ h => by rw [hh3]; exact h) (g := (mkF m 27 #[.val (.ref a), .val (.ref b), .val (.int (Int32.ofNat o)), .val (.int (Int32.ofNat len)), .val .null, .unset] [])) rfl (hb hbytes d27)
  have hh5 := q5.trans hh3
  have c6 : Steps p.tables e below (s₁.setTop (entryFrame m #[.ref a, .ref b, .int (Int32.ofNat o), .int (Int32.ofNat len), .null] 6)) (T5.setTop (mkF m 30 #[.val (.ref a), .val (.ref b), .val (.int (Int32.ofNat o)), .val (.int (Int32.ofNat len)), .val .null, .unset] [.int z])) := c4.trans (st5 _ (Steps.refl _))
  have c7 : Steps p.tables e below (s₁.setTop (entryFrame m #[.ref a, .ref b, .int (Int32.ofNat o), .int (Int32.ofNat len), .null] 6)) (T5.setTop (mkF m 36 #[.val (.ref a), .val (.ref b), .val (.int (Int32.ofNat o)), .val (.int (Int32.ofNat len)), .val .null, .unset] [.int (Int32.ofNat len), .int (Int32.ofNat o), .ref b])) := c6.trans (by
    refine XS.ifNo X5.here hexec rfl (hb hbytes d30) rfl (i0_eq_f hz) ?_
    refine XS.aloadN X5.here hexec rfl (hb hbytes d33) rfl rfl ?_
    refine XS.iloadN X5.here hexec rfl (hb hbytes d34) rfl ?_
    refine XS.iloadN X5.here hexec rfl (hb hbytes d35) rfl ?_
    exact Steps.refl _)
  obtain ⟨v8, T8, X8, E8, g8⟩ := X5.callS hexec (Cmp3.law l b A o len) hown (wks W (staticW "java/lang/String" 177 Cmp3.yN)) (wk W Cmp3.tab) (W := 0) (Nat.le_of_ble_eq_true rfl) (Nat.le_of_ble_eq_true rfl) (Nat.le_refl _) (by show 0 + len ≤ len; omega) (g := (mkF m 36 #[.val (.ref a), .val (.ref b), .val (.int (Int32.ofNat o)), .val (.int (Int32.ofNat len)), .val .null, .unset] [.int (Int32.ofNat len), .int (Int32.ofNat o), .ref b])) rfl (by rw [hml]; rfl) c7 (argsL := [.ref b, .int (Int32.ofNat o), .int (Int32.ofNat len)]) (rest := []) rfl rfl (by show 2 * 0 + 0 ≤ _; decide) (hb hbytes d36) (⟨rfl, hA.mv X5.warmed.alike hh5, l1, l2, hp⟩)
  obtain ⟨e8, z8⟩ := E8
  obtain ⟨rfl, N, n1, n2, n3, n4, n5, n6⟩ := NewArr.mv _ T5 s _ _ hh5.symm (Vm.Alike.refl _) rfl e8
  rw [hh5] at z8
  have hB1 := hB.keep X8.warmed.alike (n6 _ _ hB.1)
  have hne : s.heap.size ≠ a := (Nat.ne_of_lt (Array.getElem?_eq_some_iff.mp hB.1).1).symm
  have c9 : Steps p.tables e below (s₁.setTop (entryFrame m #[.ref a, .ref b, .int (Int32.ofNat o), .int (Int32.ofNat len), .null] 6)) (T8.setTop (mkF m 39 #[.val (.ref a), .val (.ref b), .val (.int (Int32.ofNat o)), .val (.int (Int32.ofNat len)), .val .null, .unset] [.ref s.heap.size])) := g8
  have c10 : Steps p.tables e below (s₁.setTop (entryFrame m #[.ref a, .ref b, .int (Int32.ofNat o), .int (Int32.ofNat len), .null] 6)) (T8.setTop (mkF m 45 #[.val (.ref a), .val (.ref b), .val (.int (Int32.ofNat o)), .val (.int (Int32.ofNat len)), .val .null, .val (.ref s.heap.size)] [.int (Int32.ofNat N.slots.size), .ref s.heap.size, .ref a])) := by
    have hc : Steps p.tables e below (s₁.setTop (entryFrame m #[.ref a, .ref b, .int (Int32.ofNat o), .int (Int32.ofNat len), .null] 6)) (T8.setTop (mkF m 45 #[.val (.ref a), .val (.ref b), .val (.int (Int32.ofNat o)), .val (.int (Int32.ofNat len)), .val .null, .val (.ref s.heap.size)] [.int (Int32.ofNat len), .ref s.heap.size, .ref a])) := c9.trans (by
      refine XS.astore X8.here hexec rfl (hb hbytes d39) rfl rfl rfl ?_
      refine XS.aloadN X8.here hexec rfl (hb hbytes d41) rfl rfl ?_
      refine XS.aload X8.here hexec rfl (hb hbytes d42) rfl rfl ?_
      refine XS.iloadN X8.here hexec rfl (hb hbytes d44) rfl ?_
      exact Steps.refl _)
    rw [n4]; exact hc
  obtain ⟨v11, T11, X11, E11, g11⟩ := X8.callS hexec (CodL.law l s.heap.size N) hown (wks W (staticW "java/lang/String" 47 CodL.yN)) (wk W CodL.tab) (W := 1) (Nat.le_of_ble_eq_true rfl) (Nat.le_of_ble_eq_true rfl) (Nat.le_refl _) (by show 0 + len + 0 ≤ len; omega) (g := (mkF m 45 #[.val (.ref a), .val (.ref b), .val (.int (Int32.ofNat o)), .val (.int (Int32.ofNat len)), .val .null, .val (.ref s.heap.size)] [.int (Int32.ofNat N.slots.size), .ref s.heap.size, .ref a])) rfl (by rw [hml]; rfl) c10 (argsL := [.ref s.heap.size, .int (Int32.ofNat N.slots.size)]) (rest := [.ref a]) rfl rfl (by show 2 * 0 + (1 + 0) ≤ _; decide) (hb hbytes d45) (⟨rfl, n1⟩)
  obtain ⟨rfl, q11⟩ := E11
  have hB11 := hB1.mv (X8.warmed.alike.symm.trans X11.warmed.alike) q11
  have c12 : Steps p.tables e below (s₁.setTop (entryFrame m #[.ref a, .ref b, .int (Int32.ofNat o), .int (Int32.ofNat len), .null] 6)) (T11.setTop (mkF m 48 #[.val (.ref a), .val (.ref b), .val (.int (Int32.ofNat o)), .val (.int (Int32.ofNat len)), .val .null, .val (.ref s.heap.size)] [.int 0, .ref a])) := g11
  obtain ⟨T13, X13, p13, bl13, sl13, st13⟩ := X11.finit hexec hown (wk W (.fieldLink "java/lang/String" 15 "java/lang/String" "coder" "B")) (Or.inr ⟨_, (wk W (.laysFinal "java/lang/String" "java/lang/String" "coder" "B"))⟩) (Or.inl ⟨rfl, hnm⟩) f2 (Or.inl rfl) hB11 (t := .byte) (by decide +kernel) rfl (g := (mkF m 48 #[.val (.ref a), .val (.ref b), .val (.int (Int32.ofNat o)), .val (.int (Int32.ofNat len)), .val .null, .val (.ref s.heap.size)] [.int 0, .ref a])) rfl (rest := []) rfl (hb hbytes d48)
  have c14 : Steps p.tables e below (s₁.setTop (entryFrame m #[.ref a, .ref b, .int (Int32.ofNat o), .int (Int32.ofNat len), .null] 6)) (T13.setTop (mkF m 54 #[.val (.ref a), .val (.ref b), .val (.int (Int32.ofNat o)), .val (.int (Int32.ofNat len)), .val .null, .val (.ref s.heap.size)] [.ref s.heap.size, .ref a])) := (c12.trans (st13 _ (Steps.refl _))).trans (by
    refine XS.aloadN X13.here hexec rfl (hb hbytes d51) rfl rfl ?_
    refine XS.aload X13.here hexec rfl (hb hbytes d52) rfl rfl ?_
    exact Steps.refl _)
  obtain ⟨T15, X15, p15, bl15, sl15, st15⟩ := X13.finit hexec hown (wk W (.fieldLink "java/lang/String" 9 "java/lang/String" "value" "[B")) (Or.inr ⟨_, (wk W (.laysFinal "java/lang/String" "java/lang/String" "value" "[B"))⟩) (Or.inl ⟨rfl, hnm⟩) f1 (Or.inl rfl) bl13 (t := (.array .byte)) (by decide +kernel) rfl (g := (mkF m 54 #[.val (.ref a), .val (.ref b), .val (.int (Int32.ofNat o)), .val (.int (Int32.ofNat len)), .val .null, .val (.ref s.heap.size)] [.ref s.heap.size, .ref a])) rfl (rest := []) rfl (hb hbytes d54)
  have c16 : Steps p.tables e below (s₁.setTop (entryFrame m #[.ref a, .ref b, .int (Int32.ofNat o), .int (Int32.ofNat len), .null] 6)) (T15.setTop (mkF m 57 #[.val (.ref a), .val (.ref b), .val (.int (Int32.ofNat o)), .val (.int (Int32.ofNat len)), .val .null, .val (.ref s.heap.size)] [])) := c14.trans (st15 _ (Steps.refl _))
  have ap := apart (Or.inr ⟨_, (wk W (.laysFinal "java/lang/String" "java/lang/String" "value" "[B"))⟩) (Or.inr ⟨_, (wk W (.laysFinal "java/lang/String" "java/lang/String" "coder" "B"))⟩) f1 f2 (t₁ := .array .byte) (t₂ := .byte) (by decide +kernel) (by decide +kernel) (by decide)
  have al := X8.warmed.alike.symm.trans X15.warmed.alike
  have n7 : T11.heap[s.heap.size]? = some N := by rw [q11]; exact n1.1
  exact ⟨T15, none, _, _, _, X15, by simp, rfl, by omega, (fun _ => rfl), ⟨rfl, _, N, bl15, ((Same.refl D _).set _ (by simp)).set _ (by simp), sl15, (Cell.slots_setSlot_ne _ ap).trans sl13, n1.keep al (p15.other hne (p13.other hne n7)), n2, by rw [al.findClass]; exact n3, n4, n5, fun y c h1 h2 => p15.other h1 (p13.other h1 (by rw [q11]; exact n6 y c h2)), by rw [p15.2.2, p13.2.2, q11]; exact z8⟩, fun fs hl => c16.trans (X15.returnOut hexec hret (hb hbytes d57) hl)⟩
end New4
namespace New1
def yN : MethodName := ⟨"java/lang/String", "<init>", "([C)V"⟩
abbrev yB : ByteArray := jdk_42_method_3_code
theorem d0 : decode yB 0 = .ok (.aload_n 0, 1) := by decide +kernel
theorem d1 : decode yB 1 = .ok (.aload_n 1, 1) := by decide +kernel
theorem d2 : decode yB 2 = .ok (.iconst 0, 1) := by decide +kernel
theorem d3 : decode yB 3 = .ok (.aload_n 1, 1) := by decide +kernel
theorem d4 : decode yB 4 = .ok (.arraylength, 1) := by decide +kernel
theorem d5 : decode yB 5 = .ok (.aconst_null, 1) := by decide +kernel
theorem d6 : decode yB 6 = .ok (.invokespecial 27, 3) := by decide +kernel
theorem d9 : decode yB 9 = .ok (.return_, 1) := by decide +kernel
def site : List Cond := [New4.tab] ++ initW "java/lang/String" 27 New4.yN
def tab : Cond := tabOf yN yB 2 none site
def P (a : Addr) (D : Cell) (fV fC : Field) (b : Addr) (A : Cell) (z : Int32) (args : Array Value) (s : State) : Prop := args = #[.ref a, .ref b] ∧ Blank "java/lang/String" a D s ∧ Found "java/lang/String" "value" "[B" fV s ∧ Found "java/lang/String" "coder" "B" fC s ∧ Ch b A s ∧ StaticIs s "java/lang/String" "COMPACT_STRINGS" "Z" (.int z) ∧ ¬ z = 0 ∧ 0 < A.slots.size ∧ A.slots.size ≤ 536870912 ∧ ∀ i, i < A.slots.size → ¬ 255 < cv A i
def E (a : Addr) (D : Cell) (fV fC : Field) (A : Cell) (r : Option Value) (s u : State) : Prop := Got a D fV fC A 0 A.slots.size r s u
/-- new String(chars), not empty, no char above 255: a Latin-1 String of their low bytes -/
theorem law (l : Launch) (a : Addr) (D : Cell) (fV fC : Field) (b : Addr) (A : Cell) (z : Int32) : Law l yN 2 1 3 52 yB 2 none site (P a D fV fC b A z) (E a D fV fC A) [⟨a, fC.slot⟩, ⟨a, fV.slot⟩] 1 A.slots.size := by
  refine Law.of_walk (plainFor_of_name (by decide +kernel)) (by decide +kernel) (by decide +kernel) (by decide) (fun _ _ h => by rw [h.1]; rfl) (fun _ U U' hal hh h => ⟨h.1, h.2.1.mv hal hh, h.2.2.1.al hal, h.2.2.2.1.al hal, h.2.2.2.2.1.mv hal hh, h.2.2.2.2.2.1.there hal hh, h.2.2.2.2.2.2⟩) (fun r U U' V V' h1 hal h2 h => Got.mv r U U' V V' h1 hal h2 h) ?_
  intro p e s m args below meth c s₁ X0 hexec hbytes hml hret hlk hnm hown hh0 W hP
  obtain ⟨rfl, hB, f1, f2, hA, s1, hz, l0, l2, hp⟩ := hP
  have c1 : Steps p.tables e below (s₁.setTop (entryFrame m #[.ref a, .ref b] 2)) (s₁.setTop (mkF m 0 #[.val (.ref a), .val (.ref b)] [])) := entry rfl
  have c2 : Steps p.tables e below (s₁.setTop (entryFrame m #[.ref a, .ref b] 2)) (s₁.setTop (mkF m 6 #[.val (.ref a), .val (.ref b)] [.null, .int (Int32.ofNat A.slots.size), .int 0, .ref b, .ref a])) := c1.trans (by
    refine XS.aloadN X0.here hexec rfl (hb hbytes d0) rfl rfl ?_
    refine XS.aloadN X0.here hexec rfl (hb hbytes d1) rfl rfl ?_
    refine iconstV X0.here hexec rfl 0 (hb hbytes d2) (by decide) ?_
    refine XS.aloadN X0.here hexec rfl (hb hbytes d3) rfl rfl ?_
    refine X0.alen hexec (hA.1.mv X0.warmed.alike hh0) rfl rfl (hb hbytes d4) ?_
    refine XS.aconstNull X0.here hexec rfl (hb hbytes d5) ?_
    exact Steps.refl _)
  obtain ⟨v3, T3, X3, E3, g3⟩ := X0.callN hexec (New4.law l a D fV fC b A z 0 A.slots.size) rfl hown (wks W (initW "java/lang/String" 27 New4.yN)) (W New4.tab (by simp only [site, List.mem_cons, List.mem_append, true_or, or_true])) (W := 0) (Nat.le_of_ble_eq_true rfl) (Nat.le_of_ble_eq_true rfl) (Nat.le_refl _) (by show 0 + A.slots.size ≤ A.slots.size; omega) (g := (mkF m 6 #[.val (.ref a), .val (.ref b)] [.null, .int (Int32.ofNat A.slots.size), .int (Int32.ofNat 0), .ref b, .ref a])) rfl (by rw [hml]; rfl) c2 (argsL := [.ref b, .int (Int32.ofNat 0), .int (Int32.ofNat A.slots.size), .null]) (rest := []) rfl rfl (by show 2 * 0 + 0 ≤ _; decide) (hb hbytes d6) (⟨rfl, hB.mv X0.warmed.alike hh0, f1.al X0.warmed.alike, f2.al X0.warmed.alike, hA.mv X0.warmed.alike hh0, s1.there X0.warmed.alike hh0, hz, l0, by omega, l2, fun i hi => by rw [Nat.zero_add]; exact hp i hi⟩)
  have e0 := Got.mv _ s₁ s _ _ hh0.symm (Vm.Alike.refl _) rfl E3
  obtain rfl := e0.1
  have c4 : Steps p.tables e below (s₁.setTop (entryFrame m #[.ref a, .ref b] 2)) (T3.setTop (mkF m 9 #[.val (.ref a), .val (.ref b)] [])) := g3
  exact ⟨T3, none, _, _, _, X3, by simp, rfl, by omega, (fun _ => rfl), e0, fun fs hl => c4.trans (X3.returnOut hexec hret (hb hbytes d9) hl)⟩
theorem pays {l : Launch} {R : Room} {p : Program} {e : Env} {below : List Frame} {s : State} {sargs : Array Value} {len W : Nat} (a : Addr) (D : Cell) (fV fC : Field) (b : Addr) (A : Cell) (z : Int32) (htab : tab.before sargs s = true) (hfr : 4 ≤ R.frames) (hlo : W + 65 ≤ R.locals) :
    Back l R p e below s sargs yN len W (fun A₁ a₁ => A₁.cells + 1 ≤ R.cells ∧ A₁.slots + A.slots.size ≤ R.slots ∧ P a D fV fC b A z a₁ A₁.U) (fun A₁ _ v₁ B₁ => E a D fV fC A v₁ A₁.U B₁.U ∧ B₁.locs = A₁.locs ++ [⟨a, fC.slot⟩, ⟨a, fV.slot⟩] ∧ B₁.cells = A₁.cells + 1 ∧ B₁.slots = A₁.slots + A.slots.size) :=
  (law l a D fV fC b A z).pays htab hfr (by omega)
end New1
/-- the byte, read back as charAt reads it, is the char -/
theorem lo8_mask {x : Int32} (h0 : ¬ x < 0) (h1 : ¬ 255 < x) : lo8 x &&& 255 = x := by
  have t : ∀ k : Fin 256, lo8 (Int32.ofNat k.val) &&& 255 = Int32.ofNat k.val := by decide +kernel
  rw [Int32.lt_iff_toInt_lt] at h0 h1
  have e0 : (0 : Int32).toInt = 0 := rfl
  have e1 : (255 : Int32).toInt = 255 := rfl
  obtain ⟨k, hk⟩ : ∃ k : Nat, x.toInt = k := ⟨x.toInt.toNat, by omega⟩
  have hx : x = Int32.ofNat k := Int32.toInt_inj.mp (by rw [hk, Int32.toInt_ofNat_small (by omega)])
  rw [hx]
  exact t ⟨k, by omega⟩
end StrChars
namespace StrChars.Road
open Jvm Sem ClassFile Op Lib Jvm.Stand Jvm.Free Jvm.Free.XT
open Jvm.Lib.Cold (StaticIs)
abbrev ST : String := "java/lang/String"
/-- every table word that New1's law asks, flat -/
abbrev words : List Jvm.Cond := [.code New1.yN New1.yB 2 none, .initialized ST, .methodLink ST 27 New4.yN, .instanceMethod New4.yN,
  .code New4.yN New4.yB 6 none, .fieldLink ST 38 ST "COMPACT_STRINGS" "Z", .laysFinal ST ST "value" "[B", .fieldLink ST 9 ST "value" "[B", .laysFinal ST ST "coder" "B", .fieldLink ST 15 ST "coder" "B",
  .methodLink ST 1 Lib.objectInit, .instanceMethod Lib.objectInit, .code Lib.objectInit ⟨#[0xb1]⟩ 1 none, .methodLink ST 177 Cmp3.yN, .static Cmp3.yN, .methodLink ST 47 CodL.yN, .static CodL.yN,
  .code Cmp3.yN Cmp3.yB 6 (some (.array .byte)), .initialized U16, .arrayClass .byte, .methodLink U16 115 Cmp5.yN, .static Cmp5.yN, .code Cmp5.yN Cmp5.yB 7 (some .int), .code CodL.yN CodL.yB 2 (some .byte)]
theorem tab_of {a : Array Value} {s : State} (h : ∀ w ∈ words, w.before a s = true) : New1.tab.before a s = true := by
  have h5 : Cmp5.tab.before a s = true := unparts (wk h (.code Cmp5.yN Cmp5.yB 7 (some .int))) (wks h (.initialized Cmp5.yN.cls :: Cmp5.site))
  have hc : CodL.tab.before a s = true := unparts (wk h (.code CodL.yN CodL.yB 2 (some .byte))) (wks h (.initialized CodL.yN.cls :: CodL.site))
  have q5 : ∀ w ∈ Cmp5.tab :: words, w.before a s = true := fun w hw => (List.mem_cons.mp hw).elim (fun e => e ▸ h5) (h w)
  have h3 : Cmp3.tab.before a s = true := unparts (wk q5 (.code Cmp3.yN Cmp3.yB 6 (some (.array .byte)))) (wks q5 (.initialized Cmp3.yN.cls :: Cmp3.site))
  have q3 : ∀ w ∈ Cmp3.tab :: CodL.tab :: words, w.before a s = true := fun w hw => (List.mem_cons.mp hw).elim (fun e => e ▸ h3) fun hw => (List.mem_cons.mp hw).elim (fun e => e ▸ hc) (h w)
  have h4 : New4.tab.before a s = true := unparts (wk q3 (.code New4.yN New4.yB 6 none)) (wks q3 (.initialized New4.yN.cls :: New4.site))
  have q4 : ∀ w ∈ New4.tab :: words, w.before a s = true := fun w hw => (List.mem_cons.mp hw).elim (fun e => e ▸ h4) (h w)
  exact unparts (wk q4 (.code New1.yN New1.yB 2 none)) (wks q4 (.initialized New1.yN.cls :: New1.site))
/-- the words ride from the start Z to the walk's own state -/
theorem moved {Z s : State} {a0 args : Array Value} (hZ : Z.Warmed39 s.vm) (hw : ∀ d ∈ words, d.before a0 Z = true) : ∀ d ∈ words, d.before args s = true := fun d hd => by
  have q := hw d hd
  have t : ∀ d ∈ words, d = .arrayClass .byte ∨ (d.onTables && d.keepsFace) = true := by decide +kernel
  rcases t d hd with rfl | t
  · exact RoadKit.mvA hZ q
  · exact RoadKit.mv hZ q t
/-- WHAT COMES BACK, over the tables of the start Z: h the heap at the call, h' behind it -/
def Q (Z : State) (x : Addr) (A : Cell) (h : Heap) (v : Option Value) (h' : Heap) (L : List Loc) : Prop := v = none ∧ (∀ y ∈ L, y.base = x) ∧ RoadKit.Keep h h' [x] ∧ h'.size = h.size + 1 ∧ RoadKit.Exa Z h' x ST ∧ RoadKit.Fld Z h' x ST "value" "[B" (.ref h.size) ∧ RoadKit.Fld Z h' x ST "coder" "B" (.int 0) ∧
  (∃ V : Cell, RoadKit.Arr Z h' h.size V .byte ∧ V.vm = .none ∧ Z.vm.findClass "[B" = some V.cls ∧ V.slots.size = A.slots.size ∧ ∀ j, j < A.slots.size → V.slots[j]? = some (.int (lo8 (cv A j)))) ∧
  ∀ (O n d : String) (w : Value), RoadKit.Fld Z h x O n d w → RoadKit.slotOf Z O n d ≠ RoadKit.slotOf Z ST "value" "[B" → RoadKit.slotOf Z O n d ≠ RoadKit.slotOf Z ST "coder" "B" → RoadKit.Fld Z h' x O n d w
/-- **new String(chars) AT A CALL, IN THE ROAD'S FORM**: for specialBack behind newO: x the fresh String, b the char[] with the cell A -/
theorem back {p : Program} {l : Launch} {e : Env} {R : Room} {s : State} {args : Array Value} {below : List Frame} {len W : Nat} {Z : State} {a0 : Array Value} {h : Heap} (hZ : Z.Warmed39 s.vm) (hw : ∀ d ∈ words, d.before a0 Z = true) {kI : Nat} (wi : (Jvm.Cond.instantiable ST kI).before a0 Z = true)
    {x b : Addr} {A : Cell} {z : Int32} {v0 c0 : Value} (E : RoadKit.Exa Z h x ST) (V : RoadKit.Fld Z h x ST "value" "[B" v0) (C : RoadKit.Fld Z h x ST "coder" "B" c0) (K : RoadKit.Arr Z h b A .char) (hty : Typed .char A) (S : RoadKit.Sta Z h ST "COMPACT_STRINGS" "Z" (.int z)) (hz : ¬ z = 0)
    (l0 : 0 < A.slots.size) (l2 : A.slots.size ≤ 536870912) (hp : ∀ i, i < A.slots.size → ¬ 255 < cv A i) (hfr : 4 ≤ R.frames) (hlo : W + 65 ≤ R.locals) :
    Back l R p e below s args New1.yN len W (fun P a => a = #[.ref x, .ref b] ∧ P.U.heap = h ∧ P.cells + 1 ≤ R.cells ∧ P.slots + A.slots.size ≤ R.slots)
      (fun P _ v B => ∃ L, Q Z x A h v B.U.heap L ∧ B.locs = P.locs ++ L ∧ B.cells = P.cells + 1 ∧ B.slots = P.slots + A.slots.size) := by
  intro m meth c P g ig mk a X hg hsize hdg hW hn hp'
  obtain ⟨rfl, rfl, r1, r2⟩ := hp'
  have al : Z.vm.Alike P.U.vm := hZ.alike.trans X.warmed.alike
  obtain ⟨D, cfV, kV, iV, fV, hD, gV, stV, knV, obV, asV, slV⟩ := id V
  obtain ⟨D', cfC, kC, iC, fC, hD', gC, stC, -, -, asC, slC⟩ := id C
  cases hD.symm.trans hD'
  obtain ⟨D2, kD, e1, e2, e3, e4, e5⟩ := id E
  cases hD.symm.trans e1
  obtain ⟨c2, k2, i1, i2, i3, -⟩ := Cond.instantiable_spec wi
  cases e2.symm.trans i1
  cases e3.symm.trans i2
  obtain ⟨kU, u1, u2⟩ := al.2.2 _ _ e3
  have hB : Blank ST x D P.U := ⟨hD, ⟨knV, fun q hq => by rw [hq] at obV; cases obV⟩, by rw [al.findClass]; exact e2, kU, u1, by rw [u2]; exact i3, by rw [u2]; exact e5 i3⟩
  have F1 : Found ST "value" "[B" fV P.U := ⟨SBG.found_only al ⟨cfV, kV, iV, gV⟩, stV⟩
  have F2 : Found ST "coder" "B" fC P.U := ⟨SBG.found_only al ⟨cfC, kC, iC, gC⟩, stC⟩
  have hA : Ch b A P.U := ⟨⟨K.1, State.isArrayOf_alike al K.2.1, K.2.2, by omega⟩, hty⟩
  have hS : StaticIs P.U ST "COMPACT_STRINGS" "Z" (.int z) := by
    obtain ⟨cfS, iS, kS, fS, st, cS, t1, t2, t3, t4, t5, t6, t7⟩ := S
    exact StaticIs.there (s := { Z with heap := P.U.heap }) ⟨cfS, iS, kS, fS, st, cS, t1, t2, t3, t4, t5, (fun q => by rw [q] at t6; cases t6), t7⟩ al rfl
  obtain ⟨v, B, X', ⟨⟨hv, E', V', q1, q2, q3, q4, q5, q6, q7, q8, q9, q10, q11⟩, hl, hc, hs⟩, st⟩ := New1.pays x D fV fC b A z (tab_of (moved hZ hw)) hfr hlo m meth c P g ig mk _ X hg hsize hdg hW hn ⟨r1, r2, rfl, hB, F1, F2, hA, hS, hz, l0, l2, hp⟩
  have al' : Z.vm.Alike B.U.vm := hZ.alike.trans X'.warmed.alike
  have hsz : E'.slots.size = D.slots.size := by
    obtain ⟨-, -, -, kB, w1, w2, w3⟩ := q1
    obtain ⟨kB', y1, y2⟩ := al'.2.2 _ _ e3
    rw [q2.2.1] at w1
    cases w1.symm.trans y1
    rw [w3, e5 i3, y2]
  refine ⟨v, B, X', ⟨_, ⟨hv, ?_, ⟨by omega, fun y cy hy hn' => q10 y cy (by simpa using hn') hy, fun y cy hy => ?_⟩, q11, ⟨E', _, q1.1, by rw [q2.2.1]; exact e2, by rw [q2.2.1]; exact e3, by rw [q2.1]; exact obV, fun _ => by rw [hsz]; exact e5 i3⟩,
    ⟨E', cfV, kV, iV, fV, q1.1, gV, stV, by rw [q2.1]; exact knV, by rw [q2.1]; exact obV, by rw [q2.2.1]; exact asV, q3⟩, ⟨E', cfC, kC, iC, fC, q1.1, gC, stC, by rw [q2.1]; exact knV, by rw [q2.1]; exact obV, by rw [q2.2.1]; exact asC, q4⟩,
    ⟨V', ⟨q5.1, State.isArrayOf_alike al'.symm q5.2.1, q5.2.2.1⟩, q6, by rw [← al'.findClass]; exact q7, q8, fun j hj => by have := q9 j hj; rwa [Nat.zero_add] at this⟩, fun O n d w F n1 n2 => ?_⟩, hl, hc, hs⟩, st⟩
  · intro y hy
    simp only [List.mem_cons, List.not_mem_nil, or_false] at hy
    rcases hy with rfl | rfl <;> rfl
  · by_cases q : y = x
    · subst q
      cases hD.symm.trans hy
      exact ⟨E', q1.1, q2.2.1, q2.1, hsz⟩
    · exact ⟨cy, q10 y cy q hy, rfl, rfl, rfl⟩
  · obtain ⟨D3, cf, k, i, f, g1, g2, g3, g4, g5, g6, g7⟩ := F
    cases hD.symm.trans g1
    simp only [RoadKit.slotOf, g2, gV, gC, Option.map_some, Option.getD_some] at n1 n2
    exact ⟨E', cf, k, i, f, q1.1, g2, g3, by rw [q2.1]; exact g4, by rw [q2.1]; exact g5, by rw [q2.2.1]; exact g6, by rw [q2.2.2 f.slot (by simp [n1, n2])]; exact g7⟩
end StrChars.Road
namespace StrChars.Road
open Jvm Sem ClassFile Op Lib Jvm.Stand Jvm.Free Jvm.Free.XT
/-- WHAT COMES BACK, the byte[] as a list of values -/
def QA (Z : State) (x : Addr) (zn : Int32) (cs : List Int32) (h : Heap) (v : Option Value) (h' : Heap) (L : List Loc) : Prop := v = none ∧ (∀ y ∈ L, y.base = x) ∧ RoadKit.Keep h h' [x] ∧ h'.size = h.size + 1 ∧ RoadKit.Exa Z h' x ST ∧ RoadKit.Fld Z h' x ST "value" "[B" (.ref h.size) ∧ RoadKit.Fld Z h' x ST "coder" "B" (.int 0) ∧
  (∃ kb, Z.vm.findClass "[B" = some kb ∧ RoadKit.Arv Z h' h.size kb .byte zn (cs.map fun c => .int (lo8 c)) (.int 0)) ∧
  ∀ (O n d : String) (w : Value), RoadKit.Fld Z h x O n d w → RoadKit.slotOf Z O n d ≠ RoadKit.slotOf Z ST "value" "[B" → RoadKit.slotOf Z O n d ≠ RoadKit.slotOf Z ST "coder" "B" → RoadKit.Fld Z h' x O n d w
/-- **new String(chars) AT A CALL, THE ARRAYS AS LISTS**: the char[] at b holds cs, not empty, no char above 255 -/
theorem backArv {p : Program} {l : Launch} {e : Env} {R : Room} {s : State} {args : Array Value} {below : List Frame} {len W : Nat} {Z : State} {a0 : Array Value} {h : Heap} (hZ : Z.Warmed39 s.vm) (hw : ∀ d ∈ words, d.before a0 Z = true) {kI : Nat} (wi : (Jvm.Cond.instantiable ST kI).before a0 Z = true)
    {x b : Addr} {k : ClassId} {zn z : Int32} {cs : List Int32} {dv v0 c0 : Value} (E : RoadKit.Exa Z h x ST) (V : RoadKit.Fld Z h x ST "value" "[B" v0) (C : RoadKit.Fld Z h x ST "coder" "B" c0) (K : RoadKit.Arv Z h b k .char zn (cs.map Value.int) dv) (S : RoadKit.Sta Z h ST "COMPACT_STRINGS" "Z" (.int z)) (hz : ¬ z = 0)
    (hlen : zn.toNatClampNeg = cs.length) (h0 : 0 < cs.length) (hbig : cs.length ≤ 536870912) (hall : ∀ c ∈ cs, ¬ 255 < c) (hfr : 4 ≤ R.frames) (hlo : W + 65 ≤ R.locals) :
    Back l R p e below s args New1.yN len W (fun P a => a = #[.ref x, .ref b] ∧ P.U.heap = h ∧ P.cells + 1 ≤ R.cells ∧ P.slots + cs.length ≤ R.slots)
      (fun P _ v B => ∃ L, QA Z x zn cs h v B.U.heap L ∧ B.locs = P.locs ++ L ∧ B.cells = P.cells + 1 ∧ B.slots = P.slots + cs.length) := by
  obtain ⟨A, K1, K2, K3, K4, K5, K6⟩ := K
  have e : A.slots.size = cs.length := K3.trans hlen
  have hat : ∀ (i : Nat) (hi : i < cs.length), A.slots[i]? = some (.int cs[i]) := fun i hi => by rw [K5 i (by omega)]; simp [List.getD_eq_getElem?_getD, hi]
  have hcv : ∀ (i : Nat) (hi : i < cs.length), cv A i = cs[i] := fun i hi => by unfold cv; rw [hat i hi]
  have hty : Typed .char A := fun i v hv => by
    have hi : i < A.slots.size := (Array.getElem?_eq_some_iff.mp hv).1
    have q := K5 i hi
    rw [hv] at q
    rw [Option.some.inj q]
    exact K6 i hi
  refine Back.mono (back hZ hw wi E V C K1 hty S hz (by omega) (by omega) (fun i hi => by rw [hcv i (by omega)]; exact hall _ (List.getElem_mem _)) hfr hlo) (fun P a hp => ⟨hp.1, hp.2.1, hp.2.2.1, by rw [e]; exact hp.2.2.2⟩) (fun P a v B hp hq => ?_)
  obtain ⟨L, ⟨q1, q2, q3, q4, q5, q6, q7, ⟨V', v1, v2, v3, v4, v5⟩, q9⟩, hl, hc, hs⟩ := hq
  refine ⟨L, ⟨q1, q2, q3, q4, q5, q6, q7, ⟨V'.cls, v3, V', v1, rfl, by rw [v4, e, hlen], K4, fun i hi => ?_, fun i hi => ?_⟩, q9⟩, hl, hc, by rw [hs, e]⟩
  · have hi' : i < cs.length := by omega
    rw [v5 i (by omega), hcv i hi']; simp [List.getD_eq_getElem?_getD, hi']
  · have hi' : i < cs.length := by omega
    simp only [List.getD_eq_getElem?_getD, List.getElem?_map, List.getElem?_eq_getElem hi', Option.map_some, Option.getD_some]
    exact fits_lo8 _
end StrChars.Road
namespace StrChars.Road
open Jvm Sem ClassFile Op Lib Jvm.Stand Jvm.Free Jvm.Free.XT
/-- WHAT COMES BACK, in the writer's own shape -/
def QV (Z : State) (x : Addr) (N : Int32) (bs : List Int32) (h : Heap) (n0 : Nat) (v : Option Value) (h' : Heap) (L : List Loc) : Prop := v = none ∧ RoadKit.Fr n0 L ∧ RoadKit.Keep h h' [x] ∧ RoadKit.Exa Z h' x ST ∧ RoadKit.Fld Z h' x ST "coder" "B" (.int 0) ∧
  ∃ (t : Addr) (kb : ClassId), n0 ≤ t ∧ h.size ≤ t ∧ ¬ t = x ∧ RoadKit.Fld Z h' x ST "value" "[B" (.ref t) ∧ RoadKit.Arv Z h' t kb .byte N (bs.map Value.int) (.int 0)
/-- **new String(chars) AT A CALL, FOR THE WRITER**: a char[] of n known ints, each 0 to 255 -/
theorem backV {p : Program} {l : Launch} {e : Env} {R : Room} {s : State} {args : Array Value} {below : List Frame} {len W : Nat} {Z : State} {a0 : Array Value} {h : Heap} (hZ : Z.Warmed39 s.vm) (hw : ∀ d ∈ words, d.before a0 Z = true) {kI : Nat} (wi : (Jvm.Cond.instantiable ST kI).before a0 Z = true)
    {x b : Addr} {kC : ClassId} {cs bs : List Int32} {d v0 c0 : Value} {z N : Int32} {n n0 : Nat} (hx0 : n0 ≤ x) (hh0 : n0 ≤ h.size) (E : RoadKit.Exa Z h x ST) (V : RoadKit.Fld Z h x ST "value" "[B" v0) (C : RoadKit.Fld Z h x ST "coder" "B" c0) (K : RoadKit.Arv Z h b kC .char N (cs.map Value.int) d) (S : RoadKit.Sta Z h ST "COMPACT_STRINGS" "Z" (.int z)) (hz : ¬ z = 0)
    (hn : cs.length = n) (hN : N = Int32.ofNat n) (l0 : 0 < n) (l2 : n ≤ 4000) (hp : ∀ c ∈ cs, ¬ c < 0 ∧ ¬ (255 : Int32) < c) (hb : bs = cs.map (fun c => c.toInt8.toInt32)) (hfr : 4 ≤ R.frames) (hlo : W + 65 ≤ R.locals) :
    Back l R p e below s args (⟨"java/lang/String", "<init>", "([C)V"⟩ : MethodName) len W (fun P a => a = #[.ref x, .ref b] ∧ P.U.heap = h ∧ P.cells + 1 ≤ R.cells ∧ P.slots + n ≤ R.slots)
      (fun P _ v B => ∃ L, QV Z x N bs h n0 v B.U.heap L ∧ B.locs = P.locs ++ L ∧ B.cells = P.cells + 1 ∧ B.slots = P.slots + n) := by
  subst hn hN hb
  refine Back.mono (backArv hZ hw wi E V C K S hz (n32 (by omega)) l0 (by omega) (fun c hc => (hp c hc).2) hfr hlo) (fun P a hp => hp) (fun P a v B hp hq => ?_)
  obtain ⟨L, ⟨q1, q2, q3, q4, q5, q6, q7, ⟨kb, v1, v2⟩, q9⟩, hl, hc, hs⟩ := hq
  exact ⟨L, ⟨q1, fun y hy => by rw [q2 y hy]; exact hx0, q3, q5, q7, h.size, kb, hh0, Nat.le_refl _, Nat.ne_of_gt E.lt, q6, by rw [List.map_map]; exact v2⟩, hl, hc, hs⟩
end StrChars.Road
namespace StrChars
open Jvm Sem ClassFile Op Lib Jvm.Stand Jvm.Free.XT Jvm.Free.ALB Jvm.Free.JM Jvm.Free
open Jvm.Lib.Cold (StaticIs)
def hi8 (x : Int32) : Int32 := lo8 (x >>> ((8 : Int32) &&& 31))
/-- what StringUTF16.getChar makes of two bytes -/
def pairCh (u v : Int32) : Int32 := (((u &&& 255) <<< ((0 : Int32) &&& 31)) ||| ((v &&& 255) <<< ((8 : Int32) &&& 31))).toUInt32.toUInt16.toUInt32.toInt32
theorem shr0 (c : Int32) : c >>> ((0 : Int32) &&& 31) = c := by
  have e : ((0 : Int32) &&& 31) = 0 := by decide
  rw [e]
  apply Int32.toBitVec_inj.mp
  rw [Int32.toBitVec_shiftRight]
  have e1 : ((0 : Int32).toBitVec.smod 32) = 0#32 := by decide
  rw [e1, BitVec.sshiftRight_eq']
  exact BitVec.sshiftRight_zero
theorem lo8_and (x : Int32) : (lo8 x &&& 255).toBitVec.toNat = x.toBitVec.toNat % 256 := by
  have h : (lo8 x).toBitVec = (x.toBitVec.signExtend 8).signExtend 32 := by rw [lo8, Int8.toBitVec_toInt32, Int32.toBitVec_toInt8]
  rw [Int32.toBitVec_and, BitVec.toNat_and, h]
  have e : ((x.toBitVec.signExtend 8).signExtend 32).toNat % 256 = x.toBitVec.toNat % 256 := by
    rw [BitVec.toNat_signExtend]
    have hlt := x.toBitVec.isLt
    simp only [BitVec.toNat_setWidth, BitVec.toNat_signExtend]
    split <;> split <;> omega
  rw [← e]
  exact Nat.and_two_pow_sub_one_eq_mod _ 8
theorem pair_says {c : Int32} (h0 : ¬ c < 0) (h1 : ¬ 65535 < c) : pairCh (lo8 c) (hi8 c) = c := by
  rw [Int32.lt_iff_toInt_lt] at h0 h1
  have e0 : (0 : Int32).toInt = 0 := rfl
  have e1 : (65535 : Int32).toInt = 65535 := rfl
  have hc : c.toInt = c.toBitVec.toNat := by
    have := c.toBitVec.isLt
    have e : c.toInt = c.toBitVec.toInt := rfl
    rw [e] at h0 h1
    rw [e]
    rw [BitVec.toInt_eq_toNat_cond] at h0 h1 ⊢
    split at h0 <;> split <;> omega
  have hn : c.toBitVec.toNat < 65536 := by omega
  have a1 := lo8_and c
  have a2 : (hi8 c &&& 255).toBitVec.toNat = c.toBitVec.toNat / 256 := by
    rw [hi8, lo8_and]
    have e : ((8 : Int32) &&& 31) = 8 := by decide
    rw [e, Int32.toBitVec_shiftRight]
    have e2 : ((8 : Int32).toBitVec.smod 32) = 8#32 := by decide
    rw [e2, BitVec.sshiftRight_eq', BitVec.toNat_sshiftRight_of_msb_false (by rw [BitVec.msb_eq_false_iff_two_mul_lt]; omega)]
    show c.toBitVec.toNat >>> 8 % 256 = _
    rw [Nat.shiftRight_eq_div_pow]
    omega
  unfold pairCh
  apply Int32.toBitVec_inj.mp
  apply BitVec.eq_of_toNat_eq
  have f0 : ((0 : Int32) &&& 31) = 0 := by decide
  have f8 : ((8 : Int32) &&& 31) = 8 := by decide
  rw [f0, f8]
  have g : (((lo8 c &&& 255) <<< (0 : Int32)) ||| ((hi8 c &&& 255) <<< (8 : Int32))).toBitVec.toNat = c.toBitVec.toNat := by
    rw [Int32.toBitVec_or, Int32.toBitVec_shiftLeft, Int32.toBitVec_shiftLeft]
    have s0 : ((0 : Int32).toBitVec.smod 32) = 0#32 := by decide
    have s8 : ((8 : Int32).toBitVec.smod 32) = 8#32 := by decide
    rw [s0, s8, BitVec.toNat_or]
    simp only [BitVec.shiftLeft_eq', BitVec.toNat_shiftLeft, a1, a2]
    show (c.toBitVec.toNat % 256) <<< 0 % 2 ^ 32 ||| (c.toBitVec.toNat / 256) <<< 8 % 2 ^ 32 = _
    rw [Nat.shiftLeft_zero, Nat.mod_eq_of_lt (show c.toBitVec.toNat % 256 < 2 ^ 32 by omega), Nat.mod_eq_of_lt (show (c.toBitVec.toNat / 256) <<< 8 < 2 ^ 32 by rw [Nat.shiftLeft_eq]; omega), Nat.or_comm, ← Nat.shiftLeft_add_eq_or_of_lt (by omega), Nat.shiftLeft_eq]
    omega
  show BitVec.toNat (((((lo8 c &&& 255) <<< (0 : Int32)) ||| ((hi8 c &&& 255) <<< (8 : Int32))).toBitVec.setWidth 16).setWidth 32) = _
  rw [BitVec.toNat_setWidth, BitVec.toNat_setWidth, g]
  omega
end StrChars
namespace StrChars
open Jvm Sem ClassFile Op Lib Jvm.Stand Jvm.Free.XT Jvm.Free.ALB Jvm.Free.JM Jvm.Free
open Jvm.Lib.Cold (StaticIs)
theorem shr1 {n : Nat} (h : 2 * n < 2 ^ 31) : Int32.ofNat (2 * n) >>> ((1 : Int32) &&& 31) = Int32.ofNat n := by
  have e : ((1 : Int32) &&& 31) = 1 := by decide
  rw [e]
  apply Int32.toBitVec_inj.mp
  rw [Int32.toBitVec_shiftRight]
  have e1 : ((1 : Int32).toBitVec.smod 32) = 1#32 := by decide
  have hm : (BitVec.ofNat 32 (2 * n)).toNat = 2 * n := by rw [BitVec.toNat_ofNat, Nat.mod_eq_of_lt (by omega)]
  rw [e1, BitVec.sshiftRight_eq']
  apply BitVec.eq_of_toNat_eq
  show ((BitVec.ofNat 32 (2 * n)).sshiftRight 1).toNat = (BitVec.ofNat 32 n).toNat
  rw [BitVec.toNat_sshiftRight_of_msb_false (by rw [BitVec.msb_eq_false_iff_two_mul_lt, hm]; omega), hm, BitVec.toNat_ofNat, Nat.shiftRight_eq_div_pow]
  omega
/-- charAt's cast of a byte read back -/
def chr8 (u : Int32) : Int32 := (u &&& 255).toUInt32.toUInt16.toUInt32.toInt32
theorem chr8_lo8 {c : Int32} (h0 : ¬ c < 0) (h1 : ¬ 255 < c) : chr8 (lo8 c) = c := by
  have t : ∀ k : Fin 256, (Int32.ofNat k.val).toUInt32.toUInt16.toUInt32.toInt32 = Int32.ofNat k.val := by decide +kernel
  unfold chr8
  rw [lo8_mask h0 h1]
  rw [Int32.lt_iff_toInt_lt] at h0 h1
  have e0 : (0 : Int32).toInt = 0 := rfl
  have e1 : (255 : Int32).toInt = 255 := rfl
  obtain ⟨k, hk⟩ : ∃ k : Nat, c.toInt = k := ⟨c.toInt.toNat, by omega⟩
  have hx : c = Int32.ofNat k := Int32.toInt_inj.mp (by rw [hk, Int32.toInt_ofNat_small (by omega)])
  rw [hx]
  exact t ⟨k, by omega⟩
theorem narrow_ch {c : Int32} (h0 : ¬ c < 0) (h1 : ¬ 65535 < c) : narrow .char (.int c) = .int c := by
  have q : narrow .char (.int (pairCh (lo8 c) (hi8 c))) = .int (pairCh (lo8 c) (hi8 c)) := narrow_c _
  rwa [pair_says h0 h1] at q
/-- the array's cell V codes the n chars f 0 .. f (n - 1) by the coder cd, as the JDK does: coder 1 just where some char is above 255 -/
def Cod (cd : Int32) (n : Nat) (f : Nat → Int32) (V : Cell) : Prop := (cd = 0 ∧ V.slots.size = n ∧ ∀ j, j < n → V.slots[j]? = some (.int (lo8 (f j))) ∧ ¬ 255 < f j) ∨ (cd = 1 ∧ V.slots.size = 2 * n ∧ (∀ j, j < n → V.slots[2 * j]? = some (.int (lo8 (f j))) ∧ V.slots[2 * j + 1]? = some (.int (hi8 (f j)))) ∧ ∃ j, j < n ∧ 255 < f j)
theorem Cod.cd {cd : Int32} {n : Nat} {f : Nat → Int32} {V : Cell} (h : Cod cd n f V) : cd = 0 ∨ cd = 1 := h.imp (fun q => q.1) fun q => q.1
theorem Cod.len {cd : Int32} {n : Nat} {f : Nat → Int32} {V : Cell} (h : Cod cd n f V) (hs : V.slots.size < 2 ^ 31) : Int32.ofNat V.slots.size >>> (cd &&& 31) = Int32.ofNat n := by
  rcases h with ⟨rfl, h, -⟩ | ⟨rfl, h, -⟩
  · rw [shr0, h]
  · rw [h, shr1 (by omega)]
/-- **x is a String of the n chars f 0 .. f (n - 1)**, Latin-1 or UTF-16; its array at t has the cell V -/
def Txt (x t : Addr) (V : Cell) (cd : Int32) (n : Nat) (f : Nat → Int32) (U : State) : Prop := Exact "java/lang/String" x U ∧ Has x "java/lang/String" "value" "[B" (.ref t) U ∧ Has x "java/lang/String" "coder" "B" (.int cd) U ∧ XT.Arr .byte t V U ∧ Cod cd n f V ∧ ∀ j, j < n → ¬ f j < 0 ∧ ¬ 65535 < f j
theorem Txt.mv {x t : Addr} {V : Cell} {cd : Int32} {n : Nat} {f : Nat → Int32} {U U' : State} (h : Txt x t V cd n f U) (hal : U.vm.Alike U'.vm) (hh : U'.heap = U.heap) : Txt x t V cd n f U' := ⟨h.1.mv hal hh, h.2.1.mv hal hh, h.2.2.1.mv hal hh, h.2.2.2.1.mv hal hh, h.2.2.2.2⟩
namespace Cdr
def yN : MethodName := ⟨"java/lang/String", "coder", "()B"⟩
abbrev yB : ByteArray := jdk_42_method_152_code
theorem d0 : decode yB 0 = .ok (.getstatic 38, 3) := by decide +kernel
theorem d3 : decode yB 3 = .ok (.ifCond (.eq) 10, 3) := by decide +kernel
theorem d6 : decode yB 6 = .ok (.aload_n 0, 1) := by decide +kernel
theorem d7 : decode yB 7 = .ok (.getfield 15, 3) := by decide +kernel
theorem d10 : decode yB 10 = .ok (.goto 4, 3) := by decide +kernel
theorem d14 : decode yB 14 = .ok (.ireturn, 1) := by decide +kernel
def site : List Cond := [.fieldLink "java/lang/String" 38 "java/lang/String" "COMPACT_STRINGS" "Z", .fieldLink "java/lang/String" 15 "java/lang/String" "coder" "B"]
def tab : Cond := tabOf yN yB 1 (some .byte) site
def P (x : Addr) (cd z : Int32) (args : Array Value) (s : State) : Prop := args = #[.ref x] ∧ Has x "java/lang/String" "coder" "B" (.int cd) s ∧ (cd = 0 ∨ cd = 1) ∧ StaticIs s "java/lang/String" "COMPACT_STRINGS" "Z" (.int z) ∧ ¬ z = 0
def E (cd : Int32) (r : Option Value) (s u : State) : Prop := XT.PureE (some (.int cd)) r s u
theorem law (l : Launch) (x : Addr) (cd z : Int32) : Law l yN 1 0 0 0 yB 1 (some .byte) site (P x cd z) (E cd) [] 0 0 := by
  refine Law.of_walk (plainFor_of_name (by decide +kernel)) (by decide +kernel) (by decide +kernel) (by decide) (fun _ _ h => by rw [h.1]; rfl) (fun _ U U' hal hh h => ⟨h.1, h.2.1.mv hal hh, h.2.2.1, h.2.2.2.1.there hal hh, h.2.2.2.2⟩) (fun r U U' V V' h1 hal h2 h => XT.PureE.mv r U U' V V' h1 hal h2 h) ?_
  intro p e s m args below meth c s₁ X0 hexec hbytes hml hret hlk hnm hown hh0 W hP
  obtain ⟨rfl, hx, hc, s1, hz⟩ := hP
  have c1 : Steps p.tables e below (s₁.setTop (entryFrame m #[.ref x] 1)) (s₁.setTop (mkF m 0 #[.val (.ref x)] [])) := entry rfl
  obtain ⟨T2, X2, q2, st2⟩ := X0.sget hexec hown (wk W (.fieldLink "java/lang/String" 38 "java/lang/String" "COMPACT_STRINGS" "Z")) s1 (fun _ _ h => by rw [hh0]; exact h) (g := (mkF m 0 #[.val (.ref x)] [])) rfl (hb hbytes d0)
  have hh2 := q2.trans hh0
  have c3 : Steps p.tables e below (s₁.setTop (entryFrame m #[.ref x] 1)) (T2.setTop (mkF m 7 #[.val (.ref x)] [.ref x])) := (c1.trans (st2 _ (Steps.refl _))).trans (by
    refine XS.ifNo X2.here hexec rfl (hb hbytes d3) rfl (i0_eq_f hz) ?_
    refine XS.aloadN X2.here hexec rfl (hb hbytes d6) rfl rfl ?_
    exact Steps.refl _)
  obtain ⟨T4, X4, q4, st4⟩ := X2.hget hexec hown (wk W (.fieldLink "java/lang/String" 15 "java/lang/String" "coder" "B")) (hx.mv X2.warmed.alike hh2) (g := (mkF m 7 #[.val (.ref x)] [.ref x])) rfl (rest := []) rfl (hb hbytes d7)
  have c5 : Steps p.tables e below (s₁.setTop (entryFrame m #[.ref x] 1)) (T4.setTop (mkF m 14 #[.val (.ref x)] [.int cd])) := (c3.trans (st4 _ (Steps.refl _))).trans (by
    refine XS.goto X4.here hexec rfl (pc0 := 10) rfl (hb hbytes d10) (by decide) rfl ?_
    exact Steps.refl _)
  exact ⟨T4, some (.int cd), _, _, _, X4, rfl, rfl, rfl, (fun h => by cases h), ⟨rfl, q4.trans hh2⟩, fun fs hl => c5.trans (X4.ireturnOut hexec hret (by rcases hc with rfl | rfl <;> rfl) (Or.inr (Or.inr (Or.inl rfl))) (hb hbytes d14) hl)⟩
end Cdr
namespace Len
def yN : MethodName := ⟨"java/lang/String", "length", "()I"⟩
abbrev yB : ByteArray := jdk_42_method_54_code
theorem d0 : decode yB 0 = .ok (.aload_n 0, 1) := by decide +kernel
theorem d1 : decode yB 1 = .ok (.getfield 9, 3) := by decide +kernel
theorem d4 : decode yB 4 = .ok (.arraylength, 1) := by decide +kernel
theorem d5 : decode yB 5 = .ok (.aload_n 0, 1) := by decide +kernel
theorem d6 : decode yB 6 = .ok (.invokevirtual 335, 3) := by decide +kernel
theorem d9 : decode yB 9 = .ok (.ishr, 1) := by decide +kernel
theorem d10 : decode yB 10 = .ok (.ireturn, 1) := by decide +kernel
def site : List Cond := [.fieldLink "java/lang/String" 9 "java/lang/String" "value" "[B", Cdr.tab] ++ virtW "java/lang/String" 335 "java/lang/String" Cdr.yN Cdr.yN
def tab : Cond := tabOf yN yB 1 (some .int) site
def P (x t : Addr) (V : Cell) (cd : Int32) (n : Nat) (f : Nat → Int32) (z : Int32) (args : Array Value) (s : State) : Prop := args = #[.ref x] ∧ Txt x t V cd n f s ∧ StaticIs s "java/lang/String" "COMPACT_STRINGS" "Z" (.int z) ∧ ¬ z = 0
def E (n : Nat) (r : Option Value) (s u : State) : Prop := XT.PureE (some (.int (Int32.ofNat n))) r s u
/-- length() of a String of n chars, in either coding -/
theorem law (l : Launch) (x t : Addr) (V : Cell) (cd : Int32) (n : Nat) (f : Nat → Int32) (z : Int32) : Law l yN 1 0 1 13 yB 1 (some .int) site (P x t V cd n f z) (E n) [] 0 0 := by
  refine Law.of_walk (plainFor_of_name (by decide +kernel)) (by decide +kernel) (by decide +kernel) (by decide) (fun _ _ h => by rw [h.1]; rfl) (fun _ U U' hal hh h => ⟨h.1, h.2.1.mv hal hh, h.2.2.1.there hal hh, h.2.2.2⟩) (fun r U U' V V' h1 hal h2 h => XT.PureE.mv r U U' V V' h1 hal h2 h) ?_
  intro p e s m args below meth c s₁ X0 hexec hbytes hml hret hlk hnm hown hh0 W hP
  obtain ⟨rfl, hx, s1, hz⟩ := hP
  have v31 := hx.2.2.2.1.2.2.2
  have c1 : Steps p.tables e below (s₁.setTop (entryFrame m #[.ref x] 1)) (s₁.setTop (mkF m 1 #[.val (.ref x)] [.ref x])) := Steps.trans (entry rfl) (by
    show Steps p.tables e below (s₁.setTop (mkF m 0 #[.val (.ref x)] [])) _
    refine XS.aloadN X0.here hexec rfl (hb hbytes d0) rfl rfl ?_
    exact Steps.refl _)
  obtain ⟨T2, X2, q2, st2⟩ := X0.hget hexec hown (wk W (.fieldLink "java/lang/String" 9 "java/lang/String" "value" "[B")) (hx.mv X0.warmed.alike hh0).2.1 (g := (mkF m 1 #[.val (.ref x)] [.ref x])) rfl (rest := []) rfl (hb hbytes d1)
  have hh2 := q2.trans hh0
  have hx2 := hx.mv X2.warmed.alike hh2
  have c3 : Steps p.tables e below (s₁.setTop (entryFrame m #[.ref x] 1)) (T2.setTop (mkF m 6 #[.val (.ref x)] [.ref x, .int (Int32.ofNat V.slots.size)])) := (c1.trans (st2 _ (Steps.refl _))).trans (by
    refine X2.alen hexec hx2.2.2.2.1 rfl rfl (hb hbytes d4) ?_
    refine XS.aloadN X2.here hexec rfl (hb hbytes d5) rfl rfl ?_
    exact Steps.refl _)
  obtain ⟨v4, T4, X4, E4, g4⟩ := X2.callV hexec (Cdr.law l x cd z) hown (wks W (virtW "java/lang/String" 335 "java/lang/String" Cdr.yN Cdr.yN)) rfl (by decide) (wk W Cdr.tab) (W := 1) (Nat.le_of_ble_eq_true rfl) (Nat.le_of_ble_eq_true rfl) (Nat.le_refl _) (Nat.le_refl _) (hx2.1.fc X2.warmed.alike) hx2.1.is (g := (mkF m 6 #[.val (.ref x)] [.ref x, .int (Int32.ofNat V.slots.size)])) rfl (by rw [hml]; rfl) c3 (argsL := []) (rest := [.int (Int32.ofNat V.slots.size)]) rfl rfl (by show 2 * 0 + (1 + 0) ≤ _; decide) (hb hbytes d6) (⟨rfl, hx2.2.2.1, hx.2.2.2.2.1.cd, s1.there X2.warmed.alike hh2, hz⟩)
  obtain ⟨rfl, q4⟩ := E4
  have c5 : Steps p.tables e below (s₁.setTop (entryFrame m #[.ref x] 1)) (T4.setTop (mkF m 10 #[.val (.ref x)] [.int (Int32.ofNat V.slots.size >>> (cd &&& 31))])) := Steps.trans g4 (by
    refine ishr X4.here hexec rfl (hb hbytes d9) rfl ?_
    exact Steps.refl _)
  rw [hx.2.2.2.2.1.len v31] at c5
  exact ⟨T4, some (.int (Int32.ofNat n)), _, _, _, X4, rfl, rfl, rfl, (fun h => by cases h), ⟨rfl, q4.trans hh2⟩, fun fs hl => c5.trans (X4.ireturnOut hexec hret rfl (Or.inl rfl) (hb hbytes d10) hl)⟩
theorem pays {l : Launch} {R : Room} {p : Program} {e : Env} {below : List Frame} {s : State} {sargs : Array Value} {len W : Nat} (x t : Addr) (V : Cell) (cd : Int32) (n : Nat) (f : Nat → Int32) (z : Int32) (htab : tab.before sargs s = true) (hfr : 2 ≤ R.frames) (hlo : W + 25 ≤ R.locals) :
    Back l R p e below s sargs yN len W (fun A₁ a₁ => A₁.cells + 0 ≤ R.cells ∧ A₁.slots + 0 ≤ R.slots ∧ P x t V cd n f z a₁ A₁.U) (fun A₁ _ v₁ B₁ => E n v₁ A₁.U B₁.U ∧ B₁.locs = A₁.locs ++ [] ∧ B₁.cells = A₁.cells + 0 ∧ B₁.slots = A₁.slots + 0) :=
  (law l x t V cd n f z).pays htab hfr (by omega)
end Len
namespace IsL
def yN : MethodName := ⟨"java/lang/String", "isLatin1", "()Z"⟩
abbrev yB : ByteArray := jdk_42_method_154_code
theorem d0 : decode yB 0 = .ok (.getstatic 38, 3) := by decide +kernel
theorem d3 : decode yB 3 = .ok (.ifCond (.eq) 14, 3) := by decide +kernel
theorem d6 : decode yB 6 = .ok (.aload_n 0, 1) := by decide +kernel
theorem d7 : decode yB 7 = .ok (.getfield 15, 3) := by decide +kernel
theorem d10 : decode yB 10 = .ok (.ifCond (.ne) 7, 3) := by decide +kernel
theorem d13 : decode yB 13 = .ok (.iconst 1, 1) := by decide +kernel
theorem d14 : decode yB 14 = .ok (.goto 4, 3) := by decide +kernel
theorem d17 : decode yB 17 = .ok (.iconst 0, 1) := by decide +kernel
theorem d18 : decode yB 18 = .ok (.ireturn, 1) := by decide +kernel
def site : List Cond := [.fieldLink "java/lang/String" 38 "java/lang/String" "COMPACT_STRINGS" "Z", .fieldLink "java/lang/String" 15 "java/lang/String" "coder" "B"]
def tab : Cond := tabOf yN yB 1 (some .boolean) site
def P (x : Addr) (cd z : Int32) (args : Array Value) (s : State) : Prop := args = #[.ref x] ∧ Has x "java/lang/String" "coder" "B" (.int cd) s ∧ (cd = 0 ∨ cd = 1) ∧ StaticIs s "java/lang/String" "COMPACT_STRINGS" "Z" (.int z) ∧ ¬ z = 0
def E (cd : Int32) (r : Option Value) (s u : State) : Prop := XT.PureE (some (.int (1 - cd))) r s u
theorem law (l : Launch) (x : Addr) (cd z : Int32) : Law l yN 1 0 0 0 yB 1 (some .boolean) site (P x cd z) (E cd) [] 0 0 := by
  refine Law.of_walk (plainFor_of_name (by decide +kernel)) (by decide +kernel) (by decide +kernel) (by decide) (fun _ _ h => by rw [h.1]; rfl) (fun _ U U' hal hh h => ⟨h.1, h.2.1.mv hal hh, h.2.2.1, h.2.2.2.1.there hal hh, h.2.2.2.2⟩) (fun r U U' V V' h1 hal h2 h => XT.PureE.mv r U U' V V' h1 hal h2 h) ?_
  intro p e s m args below meth c s₁ X0 hexec hbytes hml hret hlk hnm hown hh0 W hP
  obtain ⟨rfl, hx, hc, s1, hz⟩ := hP
  have c1 : Steps p.tables e below (s₁.setTop (entryFrame m #[.ref x] 1)) (s₁.setTop (mkF m 0 #[.val (.ref x)] [])) := entry rfl
  obtain ⟨T2, X2, q2, st2⟩ := X0.sget hexec hown (wk W (.fieldLink "java/lang/String" 38 "java/lang/String" "COMPACT_STRINGS" "Z")) s1 (fun _ _ h => by rw [hh0]; exact h) (g := (mkF m 0 #[.val (.ref x)] [])) rfl (hb hbytes d0)
  have hh2 := q2.trans hh0
  have c3 : Steps p.tables e below (s₁.setTop (entryFrame m #[.ref x] 1)) (T2.setTop (mkF m 7 #[.val (.ref x)] [.ref x])) := (c1.trans (st2 _ (Steps.refl _))).trans (by
    refine XS.ifNo X2.here hexec rfl (hb hbytes d3) rfl (i0_eq_f hz) ?_
    refine XS.aloadN X2.here hexec rfl (hb hbytes d6) rfl rfl ?_
    exact Steps.refl _)
  obtain ⟨T4, X4, q4, st4⟩ := X2.hget hexec hown (wk W (.fieldLink "java/lang/String" 15 "java/lang/String" "coder" "B")) (hx.mv X2.warmed.alike hh2) (g := (mkF m 7 #[.val (.ref x)] [.ref x])) rfl (rest := []) rfl (hb hbytes d7)
  have c5 : Steps p.tables e below (s₁.setTop (entryFrame m #[.ref x] 1)) (T4.setTop (mkF m 10 #[.val (.ref x)] [.int cd])) := c3.trans (st4 _ (Steps.refl _))
  have c6 : Steps p.tables e below (s₁.setTop (entryFrame m #[.ref x] 1)) (T4.setTop (mkF m 18 #[.val (.ref x)] [.int (1 - cd)])) := by
    rcases hc with rfl | rfl
    · exact c5.trans (by
        refine XS.ifNo X4.here hexec rfl (hb hbytes d10) rfl (i0_ne_f rfl) ?_
        refine iconstV X4.here hexec rfl 1 (hb hbytes d13) (by decide) ?_
        refine XS.goto X4.here hexec rfl (pc0 := 14) rfl (hb hbytes d14) (by decide) rfl ?_
        exact Steps.refl _)
    · exact c5.trans (by
        refine XS.ifYes X4.here hexec rfl (pc0 := 10) rfl (hb hbytes d10) rfl (i0_ne_t (by decide)) (by decide) rfl ?_
        refine iconstV X4.here hexec rfl 0 (hb hbytes d17) (by decide) ?_
        exact Steps.refl _)
  exact ⟨T4, some (.int (1 - cd)), _, _, _, X4, rfl, rfl, rfl, (fun h => by cases h), ⟨rfl, q4.trans hh2⟩, fun fs hl => c6.trans (X4.ireturnOut hexec hret (by rcases hc with rfl | rfl <;> rfl) (Or.inr (Or.inl rfl)) (hb hbytes d18) hl)⟩
end IsL
namespace LChA
def yN : MethodName := ⟨"java/lang/StringLatin1", "charAt", "([BI)C"⟩
abbrev yB : ByteArray := jdk_43_method_2_code
theorem d0 : decode yB 0 = .ok (.iload_n 1, 1) := by decide +kernel
theorem d1 : decode yB 1 = .ok (.aload_n 0, 1) := by decide +kernel
theorem d2 : decode yB 2 = .ok (.arraylength, 1) := by decide +kernel
theorem d3 : decode yB 3 = .ok (.invokestatic 9, 3) := by decide +kernel
theorem d6 : decode yB 6 = .ok (.aload_n 0, 1) := by decide +kernel
theorem d7 : decode yB 7 = .ok (.iload_n 1, 1) := by decide +kernel
theorem d8 : decode yB 8 = .ok (.baload, 1) := by decide +kernel
theorem d9 : decode yB 9 = .ok (.sipush 255, 3) := by decide +kernel
theorem d12 : decode yB 12 = .ok (.iand, 1) := by decide +kernel
theorem d13 : decode yB 13 = .ok (.i2c, 1) := by decide +kernel
theorem d14 : decode yB 14 = .ok (.ireturn, 1) := by decide +kernel
def site : List Cond := [JO.Str_checkIndex.tab] ++ staticW "java/lang/StringLatin1" 9 JO.Str_checkIndex.yN
def tab : Cond := tabOf yN yB 2 (some .char) site
def P (t : Addr) (V : Cell) (i : Nat) (u : Int32) (fm : Value) (args : Array Value) (s : State) : Prop := args = #[.ref t, .int (Int32.ofNat i)] ∧ XT.Arr .byte t V s ∧ V.slots[i]? = some (.int u) ∧ (StaticIs s "jdk/internal/util/Preconditions" "SIOOBE_FORMATTER" "Ljava/util/function/BiFunction;" fm ∧ fm.isRef = true)
def E (u : Int32) (r : Option Value) (s w : State) : Prop := XT.PureE (some (.int (chr8 u))) r s w
theorem law (l : Launch) (t : Addr) (V : Cell) (i : Nat) (u : Int32) (fm : Value) : Law l yN 2 2 2 27 yB 2 (some .char) site (P t V i u fm) (E u) [] 0 0 := by
  refine Law.of_walk (plainFor_of_name (by decide +kernel)) (by decide +kernel) (by decide +kernel) (by decide) (fun _ _ h => by rw [h.1]; rfl) (fun _ U U' hal hh h => ⟨h.1, h.2.1.mv hal hh, h.2.2.1, h.2.2.2.1.there hal hh, h.2.2.2.2⟩) (fun r U U' V V' h1 hal h2 h => XT.PureE.mv r U U' V V' h1 hal h2 h) ?_
  intro p e s m args below meth c s₁ X0 hexec hbytes hml hret hlk hnm hown hh0 W hP
  obtain ⟨rfl, hV, hu, s1, rf⟩ := hP
  have v31 := hV.2.2.2
  have hi : i < V.slots.size := (Array.getElem?_eq_some_iff.mp hu).1
  have c1 : Steps p.tables e below (s₁.setTop (entryFrame m #[.ref t, .int (Int32.ofNat i)] 2)) (s₁.setTop (mkF m 0 #[.val (.ref t), .val (.int (Int32.ofNat i))] [])) := entry rfl
  have c2 : Steps p.tables e below (s₁.setTop (entryFrame m #[.ref t, .int (Int32.ofNat i)] 2)) (s₁.setTop (mkF m 3 #[.val (.ref t), .val (.int (Int32.ofNat i))] [.int (Int32.ofNat V.slots.size), .int (Int32.ofNat i)])) := c1.trans (by
    refine XS.iloadN X0.here hexec rfl (hb hbytes d0) rfl ?_
    refine XS.aloadN X0.here hexec rfl (hb hbytes d1) rfl rfl ?_
    refine X0.alen hexec (hV.mv X0.warmed.alike hh0) rfl rfl (hb hbytes d2) ?_
    exact Steps.refl _)
  obtain ⟨v3, T3, X3, E3, g3⟩ := X0.callS hexec (JO.Str_checkIndex.law l (Int32.ofNat i) (Int32.ofNat V.slots.size) fm) hown (wks W (staticW "java/lang/StringLatin1" 9 JO.Str_checkIndex.yN)) (wk W JO.Str_checkIndex.tab) (W := 0) (Nat.le_of_ble_eq_true rfl) (Nat.le_of_ble_eq_true rfl) (Nat.le_refl _) (Nat.le_refl _) (g := (mkF m 3 #[.val (.ref t), .val (.int (Int32.ofNat i))] [.int (Int32.ofNat V.slots.size), .int (Int32.ofNat i)])) rfl (by rw [hml]; rfl) c2 (argsL := [.int (Int32.ofNat i), .int (Int32.ofNat V.slots.size)]) (rest := []) rfl rfl (by show 2 * 0 + 0 ≤ _; decide) (hb hbytes d3) (⟨rfl, rf, s1.there X0.warmed.alike hh0, Int32.ofNat_not_neg (by omega), lt32 v31 hi⟩)
  obtain ⟨rfl, q3⟩ := E3
  have hh3 := q3.trans hh0
  have c4 : Steps p.tables e below (s₁.setTop (entryFrame m #[.ref t, .int (Int32.ofNat i)] 2)) (T3.setTop (mkF m 14 #[.val (.ref t), .val (.int (Int32.ofNat i))] [.int (chr8 u)])) := Steps.trans g3 (by
    refine XS.aloadN X3.here hexec rfl (hb hbytes d6) rfl rfl ?_
    refine XS.iloadN X3.here hexec rfl (hb hbytes d7) rfl ?_
    refine X3.aget hexec (hV.mv X3.warmed.alike hh3) rfl hu rfl rfl (hb hbytes d8) ?_
    refine sipushV X3.here hexec rfl 255 (hb hbytes d9) (by decide) ?_
    refine XS.iand X3.here hexec rfl (hb hbytes d12) rfl ?_
    refine i2c X3.here hexec rfl (hb hbytes d13) rfl ?_
    exact Steps.refl _)
  exact ⟨T3, some (.int (chr8 u)), _, _, _, X3, rfl, rfl, rfl, (fun h => by cases h), ⟨rfl, hh3⟩, fun fs hl => c4.trans (X3.ireturnOut hexec hret (narrow_c _) (Or.inr (Or.inr (Or.inr (Or.inl rfl)))) (hb hbytes d14) hl)⟩
end LChA
end StrChars
namespace StrChars.Road
open Jvm Sem ClassFile Op Lib Jvm.Stand Jvm.Free Jvm.Free.XT
open Jvm.Lib.Cold (StaticIs)
theorem consq {a : Array Value} {s : State} {c : Jvm.Cond} {L : List Jvm.Cond} (h0 : c.before a s = true) (h : ∀ w ∈ L, w.before a s = true) : ∀ w ∈ c :: L, w.before a s = true := fun w hw => (List.mem_cons.mp hw).elim (fun e => e ▸ h0) (h w)
/-- the words of String.length(), either coding -/
abbrev wordsLen : List Jvm.Cond := [.code Len.yN Len.yB 1 (some .int), .initialized ST, .fieldLink ST 9 ST "value" "[B", .fieldLink ST 38 ST "COMPACT_STRINGS" "Z", .fieldLink ST 15 ST "coder" "B", .code Cdr.yN Cdr.yB 1 (some .byte), .methodLink ST 335 Cdr.yN, .declares Cdr.yN, .selects ST Cdr.yN Cdr.yN, .instanceMethod Cdr.yN]
theorem tabLen_of {a : Array Value} {s : State} (h : ∀ w ∈ wordsLen, w.before a s = true) : Len.tab.before a s = true := by
  have hc : Cdr.tab.before a s = true := unparts (wk h (.code Cdr.yN Cdr.yB 1 (some .byte))) (wks h (.initialized Cdr.yN.cls :: Cdr.site))
  have q := consq hc h
  exact unparts (wk q (.code Len.yN Len.yB 1 (some .int))) (wks q (.initialized Len.yN.cls :: Len.site))
theorem movedLen {Z s : State} {a0 args : Array Value} (hZ : Z.Warmed39 s.vm) (hw : ∀ d ∈ wordsLen, d.before a0 Z = true) : ∀ d ∈ wordsLen, d.before args s = true := fun d hd => by
  have q := hw d hd
  have t : ∀ d ∈ wordsLen, d = .arrayClass .byte ∨ (d.onTables && d.keepsFace) = true := by decide +kernel
  rcases t d hd with rfl | t
  · exact RoadKit.mvA hZ q
  · exact RoadKit.mv hZ q t
/-- the bytes of the chars cs, low before high -/
def wideBytes : List Int32 → List Value
  | [] => []
  | c :: cs => .int (lo8 c) :: .int (hi8 c) :: wideBytes cs
theorem wide_lo (d : Value) : ∀ (cs : List Int32) (j : Nat), j < cs.length → (wideBytes cs).getD (2 * j) d = .int (lo8 (cs.getD j 0))
  | [], j, h => absurd h (Nat.not_lt_zero j)
  | c :: cs, 0, _ => rfl
  | c :: cs, j + 1, h => by
    have q := wide_lo d cs j (by simpa using h)
    rw [show 2 * (j + 1) = 2 * j + 1 + 1 from by omega]
    simpa [wideBytes] using q
theorem wide_hi (d : Value) : ∀ (cs : List Int32) (j : Nat), j < cs.length → (wideBytes cs).getD (2 * j + 1) d = .int (hi8 (cs.getD j 0))
  | [], j, h => absurd h (Nat.not_lt_zero j)
  | c :: cs, 0, _ => rfl
  | c :: cs, j + 1, h => by
    have q := wide_hi d cs j (by simpa using h)
    rw [show 2 * (j + 1) + 1 = 2 * j + 1 + 1 + 1 from by omega]
    simpa [wideBytes] using q
theorem low_at (d : Value) (cs : List Int32) (j : Nat) (h : j < cs.length) : (cs.map fun c => Value.int (lo8 c)).getD j d = .int (lo8 (cs.getD j 0)) := by
  simp [List.getD_eq_getElem?_getD, h]
/-- an array of N2 bytes vs codes the chars cs by the coder cd -/
def CodA (cs : List Int32) (cd N2 : Int32) (vs : List Value) : Prop := (cd = 0 ∧ N2 = Int32.ofNat cs.length ∧ vs = (cs.map fun c => Value.int (lo8 c)) ∧ ∀ c ∈ cs, ¬ 255 < c) ∨ (cd = 1 ∧ N2 = Int32.ofNat (2 * cs.length) ∧ vs = wideBytes cs ∧ ∃ c ∈ cs, 255 < c)
theorem CodA.cod {cs : List Int32} {cd N2 : Int32} {vs : List Value} {V : Cell} (h : CodA cs cd N2 vs) (hn : 2 * cs.length < 2 ^ 31) (hs : V.slots.size = N2.toNatClampNeg) (hv : RoadKit.Has V vs (.int 0)) : Cod cd cs.length (fun j => cs.getD j 0) V := by
  rcases h with ⟨rfl, rfl, rfl, h⟩ | ⟨rfl, rfl, rfl, c, hc, hw⟩
  · rw [n32 (by omega)] at hs
    exact Or.inl ⟨rfl, hs, fun j hj => ⟨by rw [hv j (by omega), low_at _ _ _ hj], by
      have e : cs.getD j 0 = cs[j] := by simp [List.getD_eq_getElem?_getD, hj]
      show ¬ 255 < cs.getD j 0
      rw [e]; exact h _ (List.getElem_mem _)⟩⟩
  · rw [n32 (by omega)] at hs
    obtain ⟨j, hj, rfl⟩ := List.getElem_of_mem hc
    exact Or.inr ⟨rfl, hs, fun j hj => ⟨by rw [hv _ (by omega), wide_lo _ _ _ hj], by rw [hv _ (by omega), wide_hi _ _ _ hj]⟩, j, hj, by
      have e : cs.getD j 0 = cs[j] := by simp [List.getD_eq_getElem?_getD, hj]
      show 255 < cs.getD j 0
      rw [e]; exact hw⟩
/-- an object of exactly java/lang/String, its two fields found: as the laws ask it -/
theorem strObj {Z U : State} {a0 : Array Value} {kI : Nat} (wi : (Jvm.Cond.instantiable ST kI).before a0 Z = true) (al : Z.vm.Alike U.vm) {x : Addr} {v0 c0 : Value} (E : RoadKit.Exa Z U.heap x ST) (V : RoadKit.Fld Z U.heap x ST "value" "[B" v0) (C : RoadKit.Fld Z U.heap x ST "coder" "B" c0) :
    ∃ (D : Cell) (fV fC : Field), Blank ST x D U ∧ Found ST "value" "[B" fV U ∧ Found ST "coder" "B" fC U ∧ D.slots[fV.slot]? = some v0 ∧ D.slots[fC.slot]? = some c0 ∧ RoadKit.slotOf Z ST "value" "[B" = fV.slot ∧ RoadKit.slotOf Z ST "coder" "B" = fC.slot := by
  obtain ⟨D, cfV, kV, iV, fV, hD, gV, stV, knV, obV, asV, slV⟩ := V
  obtain ⟨D', cfC, kC, iC, fC, hD', gC, stC, -, -, asC, slC⟩ := C
  cases hD.symm.trans hD'
  obtain ⟨D2, kD, e1, e2, e3, e4, e5⟩ := E
  cases hD.symm.trans e1
  obtain ⟨c2, k2, i1, i2, i3, -⟩ := Cond.instantiable_spec wi
  cases e2.symm.trans i1
  cases e3.symm.trans i2
  obtain ⟨kU, u1, u2⟩ := al.2.2 _ _ e3
  exact ⟨D, fV, fC, ⟨hD, ⟨knV, fun q hq => by rw [hq] at obV; cases obV⟩, by rw [al.findClass]; exact e2, kU, u1, by rw [u2]; exact i3, by rw [u2]; exact e5 i3⟩, ⟨SBG.found_only al ⟨cfV, kV, iV, gV⟩, stV⟩, ⟨SBG.found_only al ⟨cfC, kC, iC, gC⟩, stC⟩, slV, slC, by simp [RoadKit.slotOf, gV], by simp [RoadKit.slotOf, gC]⟩
theorem sta_is {Z U : State} (al : Z.vm.Alike U.vm) {C n d : String} {v : Value} (S : RoadKit.Sta Z U.heap C n d v) : StaticIs U C n d v := by
  obtain ⟨cfS, iS, kS, fS, st, cS, t1, t2, t3, t4, t5, t6, t7⟩ := S
  exact StaticIs.there (s := { Z with heap := U.heap }) ⟨cfS, iS, kS, fS, st, cS, t1, t2, t3, t4, t5, (fun q => by rw [q] at t6; cases t6), t7⟩ al rfl
/-- **length() OF SUCH A STRING** -/
theorem lenW {p : Program} {l : Launch} {e : Env} {R : Room} {s : State} {args : Array Value} {below : List Frame} {len W : Nat} {Z : State} {a0 : Array Value} {h : Heap} (hZ : Z.Warmed39 s.vm) (hw : ∀ d ∈ wordsLen, d.before a0 Z = true) {kI : Nat} (wi : (Jvm.Cond.instantiable ST kI).before a0 Z = true)
    {x t : Addr} {kb : ClassId} {cs : List Int32} {cd N2 z : Int32} {vs : List Value} (E : RoadKit.Exa Z h x ST) (V : RoadKit.Fld Z h x ST "value" "[B" (.ref t)) (C : RoadKit.Fld Z h x ST "coder" "B" (.int cd)) (K : RoadKit.Arv Z h t kb .byte N2 vs (.int 0)) (hc : CodA cs cd N2 vs) (hb : ∀ c ∈ cs, ¬ c < 0 ∧ ¬ (65535 : Int32) < c)
    (S : RoadKit.Sta Z h ST "COMPACT_STRINGS" "Z" (.int z)) (hz : ¬ z = 0) (l2 : cs.length ≤ 4000) (hfr : 2 ≤ R.frames) (hlo : W + 25 ≤ R.locals) :
    Back l R p e below s args (⟨"java/lang/String", "length", "()I"⟩ : MethodName) len W (fun P a => a = #[.ref x] ∧ P.U.heap = h ∧ P.cells + 0 ≤ R.cells ∧ P.slots + 0 ≤ R.slots)
      (fun P _ v B => ∃ L, (v = some (.int (Int32.ofNat cs.length)) ∧ L = [] ∧ B.U.heap = h) ∧ B.locs = P.locs ++ L ∧ B.cells = P.cells + 0 ∧ B.slots = P.slots + 0) := by
  obtain ⟨A, K1, K2, K3, K4, K5, K6⟩ := K
  have hcod := hc.cod (by omega) K3 K5
  intro m meth c P g ig mk a X hg hsize hdg hW hn hp'
  obtain ⟨rfl, rfl, r1, r2⟩ := hp'
  have al : Z.vm.Alike P.U.vm := hZ.alike.trans X.warmed.alike
  obtain ⟨D, fV, fC, hB, F1, F2, g1, g2, -, -⟩ := strObj wi al E V C
  have hx : Txt x t A cd cs.length (fun j => cs.getD j 0) P.U := ⟨⟨_, hB.2.2.1, D, hB.1, rfl, by cases q : D.vm <;> first | rfl | exact absurd q (hB.2.1.2 _)⟩, Has.of hB F1 g1, Has.of hB F2 g2, ⟨K1.1, State.isArrayOf_alike al K1.2.1, K1.2.2, by rcases hcod with ⟨-, q, -⟩ | ⟨-, q, -⟩ <;> omega⟩, hcod, fun j hj => by
    have e : cs.getD j 0 = cs[j] := by simp [List.getD_eq_getElem?_getD, hj]
    show ¬ cs.getD j 0 < 0 ∧ ¬ 65535 < cs.getD j 0
    rw [e]; exact hb _ (List.getElem_mem _)⟩
  obtain ⟨v, B, X', ⟨⟨hv, hh⟩, hl, hk, hs⟩, st⟩ := Len.pays x t A cd cs.length (fun j => cs.getD j 0) z (tabLen_of (movedLen hZ hw)) hfr hlo m meth c P g ig mk _ X hg hsize hdg hW hn ⟨r1, r2, rfl, hx, sta_is al S, hz⟩
  exact ⟨v, B, X', ⟨[], ⟨hv, rfl, hh⟩, hl, hk, hs⟩, st⟩
end StrChars.Road
namespace StrChars
open Jvm Sem ClassFile Op Lib Jvm.Stand Jvm.Free.XT Jvm.Free.ALB Jvm.Free.JM Jvm.Free
open Jvm.Lib.Cold (StaticIs)
namespace Emp
def yN : MethodName := ⟨"java/lang/String", "isEmpty", "()Z"⟩
abbrev yB : ByteArray := jdk_42_method_55_code
theorem d0 : decode yB 0 = .ok (.aload_n 0, 1) := by decide +kernel
theorem d1 : decode yB 1 = .ok (.getfield 9, 3) := by decide +kernel
theorem d4 : decode yB 4 = .ok (.arraylength, 1) := by decide +kernel
theorem d5 : decode yB 5 = .ok (.ifCond (.ne) 7, 3) := by decide +kernel
theorem d8 : decode yB 8 = .ok (.iconst 1, 1) := by decide +kernel
theorem d9 : decode yB 9 = .ok (.goto 4, 3) := by decide +kernel
theorem d12 : decode yB 12 = .ok (.iconst 0, 1) := by decide +kernel
theorem d13 : decode yB 13 = .ok (.ireturn, 1) := by decide +kernel
def site : List Cond := [.fieldLink "java/lang/String" 9 "java/lang/String" "value" "[B"]
def tab : Cond := tabOf yN yB 1 (some .boolean) site
def P (x t : Addr) (V : Cell) (cd : Int32) (n : Nat) (f : Nat → Int32) (args : Array Value) (s : State) : Prop := args = #[.ref x] ∧ Txt x t V cd n f s
def E (n : Nat) (r : Option Value) (s u : State) : Prop := XT.PureE (some (.int (if n = 0 then 1 else 0))) r s u
/-- isEmpty() of a String of n chars -/
theorem law (l : Launch) (x t : Addr) (V : Cell) (cd : Int32) (n : Nat) (f : Nat → Int32) : Law l yN 1 0 0 0 yB 1 (some .boolean) site (P x t V cd n f) (E n) [] 0 0 := by
  refine Law.of_walk (plainFor_of_name (by decide +kernel)) (by decide +kernel) (by decide +kernel) (by decide) (fun _ _ h => by rw [h.1]; rfl) (fun _ U U' hal hh h => ⟨h.1, h.2.mv hal hh⟩) (fun r U U' V V' h1 hal h2 h => XT.PureE.mv r U U' V V' h1 hal h2 h) ?_
  intro p e s m args below meth c s₁ X0 hexec hbytes hml hret hlk hnm hown hh0 W hP
  obtain ⟨rfl, hx⟩ := hP
  have v31 := hx.2.2.2.1.2.2.2
  have c1 : Steps p.tables e below (s₁.setTop (entryFrame m #[.ref x] 1)) (s₁.setTop (mkF m 1 #[.val (.ref x)] [.ref x])) := Steps.trans (entry rfl) (by
    show Steps p.tables e below (s₁.setTop (mkF m 0 #[.val (.ref x)] [])) _
    refine XS.aloadN X0.here hexec rfl (hb hbytes d0) rfl rfl ?_
    exact Steps.refl _)
  obtain ⟨T2, X2, q2, st2⟩ := X0.hget hexec hown (wk W (.fieldLink "java/lang/String" 9 "java/lang/String" "value" "[B")) (hx.mv X0.warmed.alike hh0).2.1 (g := (mkF m 1 #[.val (.ref x)] [.ref x])) rfl (rest := []) rfl (hb hbytes d1)
  have hh2 := q2.trans hh0
  have hx2 := hx.mv X2.warmed.alike hh2
  have c3 : Steps p.tables e below (s₁.setTop (entryFrame m #[.ref x] 1)) (T2.setTop (mkF m 5 #[.val (.ref x)] [.int (Int32.ofNat V.slots.size)])) := (c1.trans (st2 _ (Steps.refl _))).trans (by
    refine X2.alen hexec hx2.2.2.2.1 rfl rfl (hb hbytes d4) ?_
    exact Steps.refl _)
  have hz : V.slots.size = 0 ↔ n = 0 := by
    rcases hx.2.2.2.2.1 with ⟨-, q, -⟩ | ⟨-, q, -⟩ <;> omega
  by_cases h0 : n = 0
  · have c4 : Steps p.tables e below (s₁.setTop (entryFrame m #[.ref x] 1)) (T2.setTop (mkF m 13 #[.val (.ref x)] [.int 1])) := c3.trans (by
      refine XS.ifNo X2.here hexec rfl (hb hbytes d5) rfl (i0_ne_f (by rw [hz.mpr h0]; rfl)) ?_
      refine iconstV X2.here hexec rfl 1 (hb hbytes d8) (by decide) ?_
      refine XS.goto X2.here hexec rfl (pc0 := 9) rfl (hb hbytes d9) (by decide) rfl ?_
      exact Steps.refl _)
    exact ⟨T2, some (.int 1), _, _, _, X2, rfl, rfl, rfl, (fun h => by cases h), ⟨by rw [if_pos h0], hh2⟩, fun fs hl => c4.trans (X2.ireturnOut hexec hret rfl (Or.inr (Or.inl rfl)) (hb hbytes d13) hl)⟩
  · have c4 : Steps p.tables e below (s₁.setTop (entryFrame m #[.ref x] 1)) (T2.setTop (mkF m 13 #[.val (.ref x)] [.int 0])) := c3.trans (by
      refine XS.ifYes X2.here hexec rfl (pc0 := 5) rfl (hb hbytes d5) rfl (i0_ne_t (nz32 v31 (by omega))) (by decide) rfl ?_
      refine iconstV X2.here hexec rfl 0 (hb hbytes d12) (by decide) ?_
      exact Steps.refl _)
    exact ⟨T2, some (.int 0), _, _, _, X2, rfl, rfl, rfl, (fun h => by cases h), ⟨by rw [if_neg h0], hh2⟩, fun fs hl => c4.trans (X2.ireturnOut hexec hret rfl (Or.inr (Or.inl rfl)) (hb hbytes d13) hl)⟩
theorem pays {l : Launch} {R : Room} {p : Program} {e : Env} {below : List Frame} {s : State} {sargs : Array Value} {len W : Nat} (x t : Addr) (V : Cell) (cd : Int32) (n : Nat) (f : Nat → Int32) (htab : tab.before sargs s = true) (hfr : 1 ≤ R.frames) (hlo : W + 12 ≤ R.locals) :
    Back l R p e below s sargs yN len W (fun A₁ a₁ => A₁.cells + 0 ≤ R.cells ∧ A₁.slots + 0 ≤ R.slots ∧ P x t V cd n f a₁ A₁.U) (fun A₁ _ v₁ B₁ => E n v₁ A₁.U B₁.U ∧ B₁.locs = A₁.locs ++ [] ∧ B₁.cells = A₁.cells + 0 ∧ B₁.slots = A₁.slots + 0) :=
  (law l x t V cd n f).pays htab hfr (by omega)
end Emp
end StrChars
namespace StrChars.Road
open Jvm Sem ClassFile Op Lib Jvm.Stand Jvm.Free Jvm.Free.XT
open Jvm.Lib.Cold (StaticIs)
/-- the words of String.isEmpty() -/
abbrev wordsEmp : List Jvm.Cond := [.code Emp.yN Emp.yB 1 (some .boolean), .initialized ST, .fieldLink ST 9 ST "value" "[B"]
theorem tabEmp_of {a : Array Value} {s : State} (h : ∀ w ∈ wordsEmp, w.before a s = true) : Emp.tab.before a s = true := unparts (wk h (.code Emp.yN Emp.yB 1 (some .boolean))) (wks h (.initialized Emp.yN.cls :: Emp.site))
theorem movedEmp {Z s : State} {a0 args : Array Value} (hZ : Z.Warmed39 s.vm) (hw : ∀ d ∈ wordsEmp, d.before a0 Z = true) : ∀ d ∈ wordsEmp, d.before args s = true := fun d hd => by
  have t : ∀ d ∈ wordsEmp, (d.onTables && d.keepsFace) = true := by decide +kernel
  exact RoadKit.mv hZ (hw d hd) (t d hd)
/-- the road's facts of a String, as the laws ask it -/
theorem txt_of {Z U : State} {a0 : Array Value} {kI : Nat} (wi : (Jvm.Cond.instantiable ST kI).before a0 Z = true) (al : Z.vm.Alike U.vm) {x t : Addr} {kb : ClassId} {cs : List Int32} {cd N2 : Int32} {vs : List Value} (E : RoadKit.Exa Z U.heap x ST) (V : RoadKit.Fld Z U.heap x ST "value" "[B" (.ref t)) (C : RoadKit.Fld Z U.heap x ST "coder" "B" (.int cd)) (K : RoadKit.Arv Z U.heap t kb .byte N2 vs (.int 0)) (hc : CodA cs cd N2 vs) (hb : ∀ c ∈ cs, ¬ c < 0 ∧ ¬ (65535 : Int32) < c) (l2 : cs.length ≤ 4000) :
    ∃ A, Txt x t A cd cs.length (fun j => cs.getD j 0) U := by
  obtain ⟨A, K1, K2, K3, K4, K5, K6⟩ := K
  have hcod := hc.cod (by omega) K3 K5
  obtain ⟨D, fV, fC, hB, F1, F2, g1, g2, -, -⟩ := strObj wi al E V C
  exact ⟨A, ⟨_, hB.2.2.1, D, hB.1, rfl, by cases q : D.vm <;> first | rfl | exact absurd q (hB.2.1.2 _)⟩, Has.of hB F1 g1, Has.of hB F2 g2, ⟨K1.1, State.isArrayOf_alike al K1.2.1, K1.2.2, by rcases hcod with ⟨-, q, -⟩ | ⟨-, q, -⟩ <;> omega⟩, hcod, fun j hj => by
    have e : cs.getD j 0 = cs[j] := by simp [List.getD_eq_getElem?_getD, hj]
    show ¬ cs.getD j 0 < 0 ∧ ¬ 65535 < cs.getD j 0
    rw [e]; exact hb _ (List.getElem_mem _)⟩
/-- **isEmpty() OF SUCH A STRING** -/
theorem empW {p : Program} {l : Launch} {e : Env} {R : Room} {s : State} {args : Array Value} {below : List Frame} {len W : Nat} {Z : State} {a0 : Array Value} {h : Heap} (hZ : Z.Warmed39 s.vm) (hw : ∀ d ∈ wordsEmp, d.before a0 Z = true) {kI : Nat} (wi : (Jvm.Cond.instantiable ST kI).before a0 Z = true)
    {x t : Addr} {kb : ClassId} {cs : List Int32} {cd N2 : Int32} {vs : List Value} (E : RoadKit.Exa Z h x ST) (V : RoadKit.Fld Z h x ST "value" "[B" (.ref t)) (C : RoadKit.Fld Z h x ST "coder" "B" (.int cd)) (K : RoadKit.Arv Z h t kb .byte N2 vs (.int 0)) (hc : CodA cs cd N2 vs) (hb : ∀ c ∈ cs, ¬ c < 0 ∧ ¬ (65535 : Int32) < c) (l2 : cs.length ≤ 4000) (hfr : 1 ≤ R.frames) (hlo : W + 12 ≤ R.locals) :
    Back l R p e below s args (⟨"java/lang/String", "isEmpty", "()Z"⟩ : MethodName) len W (fun P a => a = #[.ref x] ∧ P.U.heap = h ∧ P.cells + 0 ≤ R.cells ∧ P.slots + 0 ≤ R.slots)
      (fun P _ v B => ∃ L, (v = some (.int (if cs.length = 0 then 1 else 0)) ∧ L = [] ∧ B.U.heap = h) ∧ B.locs = P.locs ++ L ∧ B.cells = P.cells + 0 ∧ B.slots = P.slots + 0) := by
  intro m meth c P g ig mk a X hg hsize hdg hW hn hp'
  obtain ⟨rfl, rfl, r1, r2⟩ := hp'
  have al : Z.vm.Alike P.U.vm := hZ.alike.trans X.warmed.alike
  obtain ⟨A, hx⟩ := txt_of wi al E V C K hc hb l2
  obtain ⟨v, B, X', ⟨⟨hv, hh⟩, hl, hk, hs⟩, st⟩ := Emp.pays x t A cd cs.length (fun j => cs.getD j 0) (tabEmp_of (movedEmp hZ hw)) hfr hlo m meth c P g ig mk _ X hg hsize hdg hW hn ⟨r1, r2, rfl, hx⟩
  exact ⟨v, B, X', ⟨[], ⟨hv, rfl, hh⟩, hl, hk, hs⟩, st⟩
end StrChars.Road
namespace StrChars
open Jvm Sem ClassFile Op Lib Jvm.Stand Jvm.Free.XT Jvm.Free.ALB Jvm.Free.JM Jvm.Free
open Jvm.Lib.Cold (StaticIs)
namespace ChN
def yN : MethodName := ⟨"java/lang/String", "charAt", "(I)C"⟩
abbrev yB : ByteArray := jdk_42_method_56_code
theorem d0 : decode yB 0 = .ok (.aload_n 0, 1) := by decide +kernel
theorem d1 : decode yB 1 = .ok (.invokevirtual 492, 3) := by decide +kernel
theorem d4 : decode yB 4 = .ok (.ifCond (.eq) 12, 3) := by decide +kernel
theorem d7 : decode yB 7 = .ok (.aload_n 0, 1) := by decide +kernel
theorem d8 : decode yB 8 = .ok (.getfield 9, 3) := by decide +kernel
theorem d11 : decode yB 11 = .ok (.iload_n 1, 1) := by decide +kernel
theorem d12 : decode yB 12 = .ok (.invokestatic 495, 3) := by decide +kernel
theorem d15 : decode yB 15 = .ok (.ireturn, 1) := by decide +kernel
def site : List Cond := [.fieldLink "java/lang/String" 9 "java/lang/String" "value" "[B", IsL.tab, LChA.tab] ++ virtW "java/lang/String" 492 "java/lang/String" IsL.yN IsL.yN ++ staticW "java/lang/String" 495 LChA.yN
def tab : Cond := tabOf yN yB 2 (some .char) site
def P (x t : Addr) (V : Cell) (n : Nat) (f : Nat → Int32) (z : Int32) (fm : Value) (i : Nat) (args : Array Value) (s : State) : Prop := args = #[.ref x, .int (Int32.ofNat i)] ∧ Txt x t V 0 n f s ∧ i < n ∧ StaticIs s "java/lang/String" "COMPACT_STRINGS" "Z" (.int z) ∧ ¬ z = 0 ∧ StaticIs s "jdk/internal/util/Preconditions" "SIOOBE_FORMATTER" "Ljava/util/function/BiFunction;" fm ∧ fm.isRef = true
def E (f : Nat → Int32) (i : Nat) (r : Option Value) (s u : State) : Prop := XT.PureE (some (.int (f i))) r s u
/-- charAt(i) of a Latin-1 String of n chars, i < n: f i -/
theorem law (l : Launch) (x t : Addr) (V : Cell) (n : Nat) (f : Nat → Int32) (z : Int32) (fm : Value) (i : Nat) : Law l yN 2 1 3 40 yB 2 (some .char) site (P x t V n f z fm i) (E f i) [] 0 0 := by
  refine Law.of_walk (plainFor_of_name (by decide +kernel)) (by decide +kernel) (by decide +kernel) (by decide) (fun _ _ h => by rw [h.1]; rfl) (fun _ U U' hal hh h => ⟨h.1, h.2.1.mv hal hh, h.2.2.1, h.2.2.2.1.there hal hh, h.2.2.2.2.1, h.2.2.2.2.2.1.there hal hh, h.2.2.2.2.2.2⟩) (fun r U U' V V' h1 hal h2 h => XT.PureE.mv r U U' V V' h1 hal h2 h) ?_
  intro p e s m args below meth c s₁ X0 hexec hbytes hml hret hlk hnm hown hh0 W hP
  obtain ⟨rfl, hx, hi, s1, hz, s3, rf⟩ := hP
  have v31 := hx.2.2.2.1.2.2.2
  have hr := hx.2.2.2.2.2 i hi
  have hx0 := hx.mv X0.warmed.alike hh0
  have c1 : Steps p.tables e below (s₁.setTop (entryFrame m #[.ref x, .int (Int32.ofNat i)] 2)) (s₁.setTop (mkF m 1 #[.val (.ref x), .val (.int (Int32.ofNat i))] [.ref x])) := Steps.trans (entry rfl) (by
    show Steps p.tables e below (s₁.setTop (mkF m 0 #[.val (.ref x), .val (.int (Int32.ofNat i))] [])) _
    refine XS.aloadN X0.here hexec rfl (hb hbytes d0) rfl rfl ?_
    exact Steps.refl _)
  obtain ⟨v2, T2, X2, E2, g2⟩ := X0.callV hexec (IsL.law l x 0 z) hown (wks W (virtW "java/lang/String" 492 "java/lang/String" IsL.yN IsL.yN)) rfl (by decide) (wk W IsL.tab) (W := 0) (Nat.le_of_ble_eq_true rfl) (Nat.le_of_ble_eq_true rfl) (Nat.le_refl _) (Nat.le_refl _) (hx0.1.fc X0.warmed.alike) hx0.1.is (g := (mkF m 1 #[.val (.ref x), .val (.int (Int32.ofNat i))] [.ref x])) rfl (by rw [hml]; rfl) c1 (argsL := []) (rest := []) rfl rfl (by show 2 * 0 + 0 ≤ _; decide) (hb hbytes d1) (⟨rfl, hx0.2.2.1, hx.2.2.2.2.1.cd, s1.there X0.warmed.alike hh0, hz⟩)
  obtain ⟨rfl, q2⟩ := E2
  have hh2 := q2.trans hh0
  have hx2 := hx.mv X2.warmed.alike hh2
  obtain ⟨-, k1, k2⟩ | ⟨k0, -⟩ := hx.2.2.2.2.1
  · have c3 : Steps p.tables e below (s₁.setTop (entryFrame m #[.ref x, .int (Int32.ofNat i)] 2)) (T2.setTop (mkF m 8 #[.val (.ref x), .val (.int (Int32.ofNat i))] [.ref x])) := Steps.trans g2 (by
      refine XS.ifNo X2.here hexec rfl (hb hbytes d4) rfl (i0_eq_f (by decide)) ?_
      refine XS.aloadN X2.here hexec rfl (hb hbytes d7) rfl rfl ?_
      exact Steps.refl _)
    obtain ⟨T4, X4, q4, st4⟩ := X2.hget hexec hown (wk W (.fieldLink "java/lang/String" 9 "java/lang/String" "value" "[B")) hx2.2.1 (g := (mkF m 8 #[.val (.ref x), .val (.int (Int32.ofNat i))] [.ref x])) rfl (rest := []) rfl (hb hbytes d8)
    have hh4 := q4.trans hh2
    have c5 : Steps p.tables e below (s₁.setTop (entryFrame m #[.ref x, .int (Int32.ofNat i)] 2)) (T4.setTop (mkF m 12 #[.val (.ref x), .val (.int (Int32.ofNat i))] [.int (Int32.ofNat i), .ref t])) := (c3.trans (st4 _ (Steps.refl _))).trans (by
      refine XS.iloadN X4.here hexec rfl (hb hbytes d11) rfl ?_
      exact Steps.refl _)
    obtain ⟨v6, T6, X6, E6, g6⟩ := X4.callS hexec (LChA.law l t V i (lo8 (f i)) fm) hown (wks W (staticW "java/lang/String" 495 LChA.yN)) (wk W LChA.tab) (W := 0) (Nat.le_of_ble_eq_true rfl) (Nat.le_of_ble_eq_true rfl) (Nat.le_refl _) (Nat.le_refl _) (g := (mkF m 12 #[.val (.ref x), .val (.int (Int32.ofNat i))] [.int (Int32.ofNat i), .ref t])) rfl (by rw [hml]; rfl) c5 (argsL := [.ref t, .int (Int32.ofNat i)]) (rest := []) rfl rfl (by show 2 * 0 + 0 ≤ _; decide) (hb hbytes d12) (⟨rfl, hx.2.2.2.1.mv X4.warmed.alike hh4, (k2 i hi).1, s3.there X4.warmed.alike hh4, rf⟩)
    obtain ⟨rfl, q6⟩ := E6
    rw [chr8_lo8 hr.1 (k2 i hi).2] at g6
    exact ⟨T6, some (.int (f i)), _, _, _, X6, rfl, rfl, rfl, (fun h => by cases h), ⟨rfl, q6.trans hh4⟩, fun fs hl => Steps.trans g6 (X6.ireturnOut hexec hret (narrow_ch hr.1 hr.2) (Or.inr (Or.inr (Or.inr (Or.inl rfl)))) (hb hbytes d15) hl)⟩
  · exact absurd k0 (by decide)
theorem pays {l : Launch} {R : Room} {p : Program} {e : Env} {below : List Frame} {s : State} {sargs : Array Value} {len W : Nat} (x t : Addr) (V : Cell) (n : Nat) (f : Nat → Int32) (z : Int32) (fm : Value) (i : Nat) (htab : tab.before sargs s = true) (hfr : 4 ≤ R.frames) (hlo : W + 53 ≤ R.locals) :
    Back l R p e below s sargs yN len W (fun A₁ a₁ => A₁.cells + 0 ≤ R.cells ∧ A₁.slots + 0 ≤ R.slots ∧ P x t V n f z fm i a₁ A₁.U) (fun A₁ _ v₁ B₁ => E f i v₁ A₁.U B₁.U ∧ B₁.locs = A₁.locs ++ [] ∧ B₁.cells = A₁.cells + 0 ∧ B₁.slots = A₁.slots + 0) :=
  (law l x t V n f z fm i).pays htab hfr (by omega)
end ChN
end StrChars
namespace StrChars.Road
open Jvm Sem ClassFile Op Lib Jvm.Stand Jvm.Free Jvm.Free.XT
open Jvm.Lib.Cold (StaticIs)
/-- the words of String.charAt(int), the Latin-1 road alone -/
abbrev wordsChN : List Jvm.Cond := [.code ChN.yN ChN.yB 2 (some .char), .initialized ST, .fieldLink ST 9 ST "value" "[B", .fieldLink ST 38 ST "COMPACT_STRINGS" "Z", .fieldLink ST 15 ST "coder" "B", .code IsL.yN IsL.yB 1 (some .boolean), .methodLink ST 492 IsL.yN, .declares IsL.yN, .selects ST IsL.yN IsL.yN, .instanceMethod IsL.yN,
  .methodLink ST 495 LChA.yN, .static LChA.yN, .code LChA.yN LChA.yB 2 (some .char), .initialized "java/lang/StringLatin1", .methodLink "java/lang/StringLatin1" 9 JO.Str_checkIndex.yN, .static JO.Str_checkIndex.yN, .code JO.Str_checkIndex.yN JO.Str_checkIndex.yB 2 none,
  .fieldLink ST 1053 "jdk/internal/util/Preconditions" "SIOOBE_FORMATTER" "Ljava/util/function/BiFunction;", .methodLink ST 1059 JC.PreCheck.yN, .static JC.PreCheck.yN, .code JC.PreCheck.yN JC.PreCheck.yB 3 (some .int), .initialized "jdk/internal/util/Preconditions"]
theorem tabChN_of {a : Array Value} {s : State} (h : ∀ w ∈ wordsChN, w.before a s = true) : ChN.tab.before a s = true := by
  have hp : JC.PreCheck.tab.before a s = true := unparts (wk h (.code JC.PreCheck.yN JC.PreCheck.yB 3 (some .int))) (wks h (.initialized JC.PreCheck.yN.cls :: JC.PreCheck.site))
  have qk := consq hp h
  have hk : JO.Str_checkIndex.tab.before a s = true := unparts (wk qk (.code JO.Str_checkIndex.yN JO.Str_checkIndex.yB 2 none)) (wks qk (.initialized JO.Str_checkIndex.yN.cls :: JO.Str_checkIndex.site))
  have ql := consq hk h
  have hl : LChA.tab.before a s = true := unparts (wk ql (.code LChA.yN LChA.yB 2 (some .char))) (wks ql (.initialized LChA.yN.cls :: LChA.site))
  have hi : IsL.tab.before a s = true := unparts (wk h (.code IsL.yN IsL.yB 1 (some .boolean))) (wks h (.initialized IsL.yN.cls :: IsL.site))
  have q := consq hi (consq hl h)
  exact unparts (wk q (.code ChN.yN ChN.yB 2 (some .char))) (wks q (.initialized ChN.yN.cls :: ChN.site))
theorem movedChN {Z s : State} {a0 args : Array Value} (hZ : Z.Warmed39 s.vm) (hw : ∀ d ∈ wordsChN, d.before a0 Z = true) : ∀ d ∈ wordsChN, d.before args s = true := fun d hd => by
  have t : ∀ d ∈ wordsChN, (d.onTables && d.keepsFace) = true := by decide +kernel
  exact RoadKit.mv hZ (hw d hd) (t d hd)
/-- **charAt(i) OF A LATIN-1 STRING**, i < n: the char -/
theorem chN {p : Program} {l : Launch} {e : Env} {R : Room} {s : State} {args : Array Value} {below : List Frame} {len W : Nat} {Z : State} {a0 : Array Value} {h : Heap} (hZ : Z.Warmed39 s.vm) (hw : ∀ d ∈ wordsChN, d.before a0 Z = true) {kI : Nat} (wi : (Jvm.Cond.instantiable ST kI).before a0 Z = true)
    {x t : Addr} {kb : ClassId} {cs : List Int32} {N2 z : Int32} {vs : List Value} {fm : Value} {i : Nat} {j : Int32} (E : RoadKit.Exa Z h x ST) (V : RoadKit.Fld Z h x ST "value" "[B" (.ref t)) (C : RoadKit.Fld Z h x ST "coder" "B" (.int 0)) (K : RoadKit.Arv Z h t kb .byte N2 vs (.int 0)) (hc : CodA cs 0 N2 vs) (hb : ∀ c ∈ cs, ¬ c < 0 ∧ ¬ (65535 : Int32) < c)
    (S : RoadKit.Sta Z h ST "COMPACT_STRINGS" "Z" (.int z)) (hz : ¬ z = 0) (F : RoadKit.Sta Z h "jdk/internal/util/Preconditions" "SIOOBE_FORMATTER" "Ljava/util/function/BiFunction;" fm) (rf : fm.isRef = true) (l2 : cs.length ≤ 4000) (hi : i < cs.length) (hj : j = Int32.ofNat i) (hfr : 4 ≤ R.frames) (hlo : W + 53 ≤ R.locals) :
    Back l R p e below s args (⟨"java/lang/String", "charAt", "(I)C"⟩ : MethodName) len W (fun P a => a = #[.ref x, .int j] ∧ P.U.heap = h ∧ P.cells + 0 ≤ R.cells ∧ P.slots + 0 ≤ R.slots)
      (fun P _ v B => ∃ L, (v = some (.int (cs.getD i 0)) ∧ L = [] ∧ B.U.heap = h) ∧ B.locs = P.locs ++ L ∧ B.cells = P.cells + 0 ∧ B.slots = P.slots + 0) := by
  subst hj
  intro m meth c P g ig mk a X hg hsize hdg hW hn hp'
  obtain ⟨rfl, rfl, r1, r2⟩ := hp'
  have al : Z.vm.Alike P.U.vm := hZ.alike.trans X.warmed.alike
  obtain ⟨A, hx⟩ := txt_of wi al E V C K hc hb l2
  obtain ⟨v, B, X', ⟨⟨hv, hh⟩, hl, hk, hs⟩, st⟩ := ChN.pays x t A cs.length (fun j => cs.getD j 0) z fm i (tabChN_of (movedChN hZ hw)) hfr hlo m meth c P g ig mk _ X hg hsize hdg hW hn ⟨r1, r2, rfl, hx, hi, sta_is al S, hz, sta_is al F, rf⟩
  exact ⟨v, B, X', ⟨[], ⟨hv, rfl, hh⟩, hl, hk, hs⟩, st⟩
/-- what backV says of its String, as the contracts of this text ask it: cs's low bytes, coder 0 -/
theorem codOf {cs : List Int32} {n : Nat} (hn : cs.length = n) (hb : ∀ c ∈ cs, ¬ 255 < c) : CodA cs 0 (Int32.ofNat n) ((cs.map lo8).map Value.int) := Or.inl ⟨rfl, by rw [hn], by simp [List.map_map, Function.comp_def], hb⟩
end StrChars.Road
end Jvm.Pilot.@@N@@

namespace Jvm.Pilot.@@N@@
open Jvm Jvm.ClassFile Sem Op Lib Jvm.Free Jvm.Stand Jvm.LawKit Jvm.RoadKit Bundle Jvm.Pilot.@@N@@.Jvm.D
theorem own_eqL {x y : Int64} (h : x = y) : lcmpW x y = 0 := by rw [lcW]; exact (lc_eq x y).2 h
theorem own_neL {x y : Int64} (h : ¬ x = y) : ¬ lcmpW x y = 0 := by rw [lcW]; exact fun q => h ((lc_eq x y).1 q)
theorem own_ltL {x y : Int64} (h : x < y) : lcmpW x y < 0 := by rw [lcW]; exact (lc_lt x y).2 h
theorem own_nltL {x y : Int64} (h : ¬ x < y) : ¬ lcmpW x y < 0 := by rw [lcW]; exact fun q => h ((lc_lt x y).1 q)
theorem own_gtL {x y : Int64} (h : y < x) : 0 < lcmpW x y := by rw [lcW]; exact (lc_gt x y).2 h
theorem own_ns_exa {Z : State} {h : Heap} {a : Addr} {C : String} (E : Exa Z h a C) : ∀ cell : Cell, h[a]? = some cell → cell.vm.isStatics = false := by
  obtain ⟨c, k, h1, -, -, h4, -⟩ := E
  intro cell hc; cases h1.symm.trans hc; exact h4
theorem own_ns1 {h : Heap} {a : Addr} (p : ∀ cell : Cell, h[a]? = some cell → cell.vm.isStatics = false) : ∀ x ∈ [a], ∀ cell : Cell, h[x]? = some cell → cell.vm.isStatics = false := by
  intro x hx; cases List.mem_singleton.mp hx; exact p
theorem own_ns2 {h : Heap} {a b : Addr} (p : ∀ cell : Cell, h[a]? = some cell → cell.vm.isStatics = false) (q : ∀ cell : Cell, h[b]? = some cell → cell.vm.isStatics = false) : ∀ x ∈ [a, b], ∀ cell : Cell, h[x]? = some cell → cell.vm.isStatics = false := by
  intro x hx; simp only [List.mem_cons, List.not_mem_nil, or_false] at hx; rcases hx with rfl | rfl <;> first | exact p | exact q
theorem own_sta_keep {Z : State} {h h' : Heap} {ws : List Addr} {C n d : String} {v : Value} (F : Sta Z h C n d v) (K : Keep h h' ws) (hn : ∀ x ∈ ws, ∀ cell : Cell, h[x]? = some cell → cell.vm.isStatics = false) : Sta Z h' C n d v := by
  obtain ⟨cf, i, k, f, st, cell, h1, h2, h3, h4, h5, h6, r⟩ := F
  exact ⟨cf, i, k, f, st, cell, h1, h2, h3, h4, K.2.1 _ _ h5 (fun q => by rw [hn _ q _ h5] at h6; cases h6), h6, r⟩
theorem own_sta_keep0 {Z : State} {h h' : Heap} {C n d : String} {v : Value} (F : Sta Z h C n d v) (K : Keep h h' []) : Sta Z h' C n d v := by
  obtain ⟨cf, i, k, f, st, cell, h1, h2, h3, h4, h5, r⟩ := F
  exact ⟨cf, i, k, f, st, cell, h1, h2, h3, h4, K.2.1 _ _ h5 List.not_mem_nil, r⟩
theorem own_ngtL {x y : Int64} (h : ¬ y < x) : ¬ 0 < lcmpW x y := by rw [lcW]; exact fun q => h ((lc_gt x y).1 q)
theorem own_wordsLen {Z : State} {ar0 : Array Value} (hw : ∀ d ∈ tables_1, d.before ar0 Z = true) : ∀ d ∈ StrChars.Road.wordsLen, d.before ar0 Z = true := fun d hd => hw d ((by decide +kernel : ∀ d ∈ StrChars.Road.wordsLen, d ∈ tables_1) d hd)
theorem own_wordsEmp {Z : State} {ar0 : Array Value} (hw : ∀ d ∈ tables_1, d.before ar0 Z = true) : ∀ d ∈ StrChars.Road.wordsEmp, d.before ar0 Z = true := fun d hd => hw d ((by decide +kernel : ∀ d ∈ StrChars.Road.wordsEmp, d ∈ tables_1) d hd)
theorem own_wordsChN {Z : State} {ar0 : Array Value} (hw : ∀ d ∈ tables_1, d.before ar0 Z = true) : ∀ d ∈ StrChars.Road.wordsChN, d.before ar0 Z = true := fun d hd => hw d ((by decide +kernel : ∀ d ∈ StrChars.Road.wordsChN, d ∈ tables_1) d hd)
theorem own_words {Z : State} {ar0 : Array Value} (hw : ∀ d ∈ tables_1, d.before ar0 Z = true) : ∀ d ∈ StrChars.Road.words, d.before ar0 Z = true := fun d hd => hw d ((by decide +kernel : ∀ d ∈ StrChars.Road.words, d ∈ tables_1) d hd)
theorem own_up (cs : List Int32) (h : ∀ c ∈ cs, ¬ c < 0 ∧ ¬ (255 : Int32) < c) : ∀ c ∈ cs, ¬ c < 0 ∧ ¬ (65535 : Int32) < c := fun c hc => ⟨(h c hc).1, fun q => (h c hc).2 (by rw [Int32.lt_iff_toInt_lt] at q ⊢; have e1 : (65535 : Int32).toInt = 65535 := rfl; have e2 : (255 : Int32).toInt = 255 := rfl; omega)⟩
theorem own_eqI {a : Term} {k : Int32} {args : Array Value} {first s : State} {o : Option Outcome} {idx : List Nat} (h : (Cond.eq a (.int k)).value args first o s idx = some true) : a.eval args first o idx s = some (.int k) := by
  simp only [Cond.value, Term.eval] at h
  cases ha : a.eval args first o idx s with
  | none => simp [ha] at h
  | some x => cases x <;> simp [ha] at h ⊢; exact h
theorem own_eqJ {a : Term} {k : Int64} {args : Array Value} {first s : State} {o : Option Outcome} {idx : List Nat} (h : (Cond.eq a (.long k)).value args first o s idx = some true) : a.eval args first o idx s = some (.long k) := by
  simp only [Cond.value, Term.eval] at h
  cases ha : a.eval args first o idx s with
  | none => simp [ha] at h
  | some x => cases x <;> simp [ha] at h ⊢; exact h
theorem own_len {args : Array Value} {s : State} {t : Term} {a : Addr} {cl : Cell} {n : Int32} (ht : t.eval args s none [] s = some (.ref a)) (hc : s.arrayAt? a = some cl) (h : (Term.length t).eval args s none [] s = some (.int n)) : cl.slots.size < 2 ^ 31 ∧ cl.slots.size.toInt32 = n := by
  simp only [Term.eval, ht, hc, Option.bind_eq_bind, Option.bind_some] at h
  split at h
  · rename_i q; exact ⟨q, by simpa using h⟩
  · cases h
theorem own_sizeN {n : Nat} {k : Int32} (h : n < 2 ^ 31) (e : n.toInt32 = k) : n = k.toNatClampNeg := by
  have q : (n : Int) = k.toInt := by rw [← e]; exact (Int32.toInt_ofNat_of_lt h).symm
  show n = k.toInt.toNat
  omega
theorem own_exa_at {args : Array Value} {s : State} {idx : List Nat} {t : Term} {C : String} {b : Addr} (h : (Cond.exactly t C).value args s none s idx = some true) (e : t.eval args s none idx s = some (.ref b)) : Exa s s.heap b C := by
  obtain ⟨a', c', cell, k, e1, e2, e3, e4, e5, e6, e7⟩ := Cond.exactly_spec (show (Cond.exactly t C).holds args s none s idx = true from beq_iff_eq.mpr h)
  cases e.symm.trans e1
  exact ⟨cell, k, e3, by rw [e6]; exact e2, by rw [e6]; exact e4, e5, e7⟩
theorem own_index {args : Array Value} {s : State} {j : Int32} (h : ¬ j < 0) : (Term.index 0).eval args s none [j.toNatClampNeg] s = some (.int j) := by
  have q := back32 h
  simp [Term.eval, q.1, q.2]
theorem own_elR {args : Array Value} {s : State} {T t2 : Term} {a b : Addr} {cl : Cell} {ty : FieldType} {j : Int32} (A : Arr s s.heap a cl ty) (ha : T.eval args s none [] s = some (.ref a)) (hb : t2.eval args s none [] s = some (.ref b)) (h : (Cond.eq (.elem T (.int j)) t2).value args s none s [] = some true) : cl.slots[j.toNatClampNeg]? = some (.ref b) := by
  obtain ⟨x, y, e1, e2, k1, -⟩ := cmp_v (Or.inl h)
  cases hb.symm.trans e2
  obtain ⟨c', c1, -, c3⟩ := elem_at e1 ha rfl
  cases A.1.symm.trans c1
  rw [c3]
  have hx : x.isRef = true := by cases x <;> simp [Kin, Value.isRef] at k1 ⊢
  have q := gotT (eq_R e1 hb hx rfl) h
  rw [q]

theorem pn_0 : plainName "com/example/loomfilter/loomfilter/core/LayoutCheckNamePinLaw" = true := by first | (simp [plainName, overriddenIn]; done) | decide +kernel
theorem d1_0 : decode method_2_code 0 = .ok (.iload_n 0, 1) := by decide +kernel
theorem d1_1 : decode method_2_code 1 = .ok (.ldc 7, 2) := by decide +kernel
theorem d1_3 : decode method_2_code 3 = .ok (.iand, 1) := by decide +kernel
theorem d1_4 : decode method_2_code 4 = .ok (.bipush 65, 2) := by decide +kernel
theorem d1_6 : decode method_2_code 6 = .ok (.irem, 1) := by decide +kernel
theorem d1_7 : decode method_2_code 7 = .ok (.istore_n 1, 1) := by decide +kernel
theorem d1_8 : decode method_2_code 8 = .ok (.iload_n 1, 1) := by decide +kernel
theorem d1_9 : decode method_2_code 9 = .ok (.bipush 26, 2) := by decide +kernel
theorem d1_11 : decode method_2_code 11 = .ok (.if_icmp .ge 9, 3) := by decide +kernel
theorem d1_14 : decode method_2_code 14 = .ok (.bipush 97, 2) := by decide +kernel
theorem d1_16 : decode method_2_code 16 = .ok (.iload_n 1, 1) := by decide +kernel
theorem d1_17 : decode method_2_code 17 = .ok (.iadd, 1) := by decide +kernel
theorem d1_18 : decode method_2_code 18 = .ok (.i2c, 1) := by decide +kernel
theorem d1_19 : decode method_2_code 19 = .ok (.ireturn, 1) := by decide +kernel
theorem d1_20 : decode method_2_code 20 = .ok (.iload_n 1, 1) := by decide +kernel
theorem d1_21 : decode method_2_code 21 = .ok (.bipush 52, 2) := by decide +kernel
theorem d1_23 : decode method_2_code 23 = .ok (.if_icmp .ge 12, 3) := by decide +kernel
theorem d1_26 : decode method_2_code 26 = .ok (.bipush 65, 2) := by decide +kernel
theorem d1_28 : decode method_2_code 28 = .ok (.iload_n 1, 1) := by decide +kernel
theorem d1_29 : decode method_2_code 29 = .ok (.bipush 26, 2) := by decide +kernel
theorem d1_31 : decode method_2_code 31 = .ok (.isub, 1) := by decide +kernel
theorem d1_32 : decode method_2_code 32 = .ok (.iadd, 1) := by decide +kernel
theorem d1_33 : decode method_2_code 33 = .ok (.i2c, 1) := by decide +kernel
theorem d1_34 : decode method_2_code 34 = .ok (.ireturn, 1) := by decide +kernel
theorem d1_35 : decode method_2_code 35 = .ok (.iload_n 1, 1) := by decide +kernel
theorem d1_36 : decode method_2_code 36 = .ok (.bipush 62, 2) := by decide +kernel
theorem d1_38 : decode method_2_code 38 = .ok (.if_icmp .ge 12, 3) := by decide +kernel
theorem d1_41 : decode method_2_code 41 = .ok (.bipush 48, 2) := by decide +kernel
theorem d1_43 : decode method_2_code 43 = .ok (.iload_n 1, 1) := by decide +kernel
theorem d1_44 : decode method_2_code 44 = .ok (.bipush 52, 2) := by decide +kernel
theorem d1_46 : decode method_2_code 46 = .ok (.isub, 1) := by decide +kernel
theorem d1_47 : decode method_2_code 47 = .ok (.iadd, 1) := by decide +kernel
theorem d1_48 : decode method_2_code 48 = .ok (.i2c, 1) := by decide +kernel
theorem d1_49 : decode method_2_code 49 = .ok (.ireturn, 1) := by decide +kernel
theorem d1_50 : decode method_2_code 50 = .ok (.iload_n 1, 1) := by decide +kernel
theorem d1_51 : decode method_2_code 51 = .ok (.bipush 62, 2) := by decide +kernel
theorem d1_53 : decode method_2_code 53 = .ok (.if_icmp .ne 6, 3) := by decide +kernel
theorem d1_56 : decode method_2_code 56 = .ok (.bipush 46, 2) := by decide +kernel
theorem d1_58 : decode method_2_code 58 = .ok (.ireturn, 1) := by decide +kernel
theorem d1_59 : decode method_2_code 59 = .ok (.iload_n 1, 1) := by decide +kernel
theorem d1_60 : decode method_2_code 60 = .ok (.bipush 63, 2) := by decide +kernel
theorem d1_62 : decode method_2_code 62 = .ok (.if_icmp .ne 6, 3) := by decide +kernel
theorem d1_65 : decode method_2_code 65 = .ok (.bipush 95, 2) := by decide +kernel
theorem d1_67 : decode method_2_code 67 = .ok (.ireturn, 1) := by decide +kernel
theorem d1_68 : decode method_2_code 68 = .ok (.bipush 45, 2) := by decide +kernel
theorem d1_70 : decode method_2_code 70 = .ok (.ireturn, 1) := by decide +kernel
theorem ef_1 (m : MethodId) (x0 : Int32) : entryFrame m #[(.int x0)] 2 = mkF m 0 #[.val (.int x0), .unset] [] := by first | (simp [entryFrame, mkF, argsToLocals, Value.category]; done) | rfl
def f1 (p0 : Int32) : Int32 := (if ((p0 &&& (2147483647 : Int32)) % (65 : Int32)) < (26 : Int32) then (nar .char (((97 : Int32) + ((p0 &&& (2147483647 : Int32)) % (65 : Int32))).toUInt32.toUInt16.toUInt32.toInt32)) else (if ((p0 &&& (2147483647 : Int32)) % (65 : Int32)) < (52 : Int32) then (nar .char (((65 : Int32) + (((p0 &&& (2147483647 : Int32)) % (65 : Int32)) - (26 : Int32))).toUInt32.toUInt16.toUInt32.toInt32)) else (if ((p0 &&& (2147483647 : Int32)) % (65 : Int32)) < (62 : Int32) then (nar .char (((48 : Int32) + (((p0 &&& (2147483647 : Int32)) % (65 : Int32)) - (52 : Int32))).toUInt32.toUInt16.toUInt32.toInt32)) else (if ((p0 &&& (2147483647 : Int32)) % (65 : Int32)) = (62 : Int32) then (46 : Int32) else (if ((p0 &&& (2147483647 : Int32)) % (65 : Int32)) = (63 : Int32) then (95 : Int32) else (45 : Int32))))))
def Q1 (Z : State) (p0 : Int32) (h0 : Heap) (n0 : Nat) (v : Option Value) (h : Heap) (L : List Loc) : Prop := v = some (.int (f1 p0)) ∧ Fr n0 L ∧ h = h0
set_option maxRecDepth 65536 in
set_option maxHeartbeats 40000000 in
theorem rm1 (l : Launch) (Z : State) (ar0 : Array Value) (hw : ∀ d ∈ tables_1, d.before ar0 Z = true) (ws : List Jvm.Cond) (p0 : Int32) (h0 : Heap) (n0 : Nat) (Z0 : n0 ≤ h0.size) :
    MetFree l (⟨"com/example/loomfilter/loomfilter/core/LayoutCheckNamePinLaw", "allowed", "(I)C"⟩ : MethodName) (head1 (Jvm.Cond.code (⟨"com/example/loomfilter/loomfilter/core/LayoutCheckNamePinLaw", "allowed", "(I)C"⟩ : MethodName) method_2_code 2 (some .char) :: ws) ({ frames := 0, cells := 0, slots := 0, locals := 0 } : Room)) (fun a U => a = #[(.int p0)] ∧ Z.Warmed39 U.vm ∧ U.heap = h0) (fun _ _ _ _ _ => True) (fun _ U o U' => ∃ v L, o = .returned v ∧ Q1 Z p0 h0 n0 v U'.heap L ∧ FrameEnd U o U' L ({ frames := 0, cells := 0, slots := 0, locals := 0 } : Room).cells ({ frames := 0, cells := 0, slots := 0, locals := 0 } : Room).slots) := by
  refine MetFree.of_bodySF (plainFor_of_name pn_0) hisR ?_
  intro p e s m args below meth c s₁ Bd hml0 hP hK
  obtain ⟨rfl, hZ, hh⟩ := hP
  have hx := Bd.exec
  have hby := Bd.bytes
  have hml : c.maxLocals = 2 := hml0
  have hown : s.vm.findClass "com/example/loomfilter/loomfilter/core/LayoutCheckNamePinLaw" = some m.cls := findClass_of_methodNamed Bd.named
  have hnm := (name_of_methodNamed Bd.named Bd.method).1
  have X0 : Stand p l e ({ frames := 0, cells := 0, slots := 0, locals := 0 } : Room) s m #[(.int p0)] below meth c s₁ [] 0 0 := Stand.of_body Bd
  have e0 : s₁.heap = h0 := by rw [← hh, Bd.state]; rfl
  have N0 := Fr.nil n0
  have pre0 : ∀ t, Steps p.tables e below (s₁.setTop (mkF m 0 #[.val (.int p0), .unset] [])) t → Steps p.tables e below (s₁.setTop (entryFrame m #[(.int p0)] 2)) t := fun t k => castTop (ef_1 m p0) k
  have pre1 : ∀ t, Steps p.tables e below (s₁.setTop (mkF m 11 #[.val (.int p0), .val (.int ((p0 &&& (2147483647 : Int32)) % (65 : Int32)))] [(.int (26 : Int32)), (.int ((p0 &&& (2147483647 : Int32)) % (65 : Int32)))])) t → Steps p.tables e below (s₁.setTop (entryFrame m #[(.int p0)] 2)) t := by
    intro t k
    refine pre0 t ?_
    show Steps p.tables e below (s₁.setTop (mkF m 0 #[.val (.int p0), .unset] [])) _
    refine XS.iloadN X0.here hx rfl (hb hby d1_0) rfl ?_
    refine X0.ldcInt hx hown (mvT hZ (hw _ (List.mem_of_getElem? (i := 4) rfl))) (g := (mkF m 1 #[.val (.int p0), .unset] [(.int p0)])) rfl (hb hby d1_1) _ ?_
    refine XS.iand X0.here hx rfl (hb hby d1_3) rfl ?_
    refine XS.bipush X0.here hx rfl (hb hby d1_4) ?_
    refine iremM X0 hx rfl (hb hby d1_6) rfl (by decide) ?_
    refine XS.istoreN X0.here hx rfl (hb hby d1_7) rfl (l' := #[.val (.int p0), .val (.int ((p0 &&& (2147483647 : Int32)) % (65 : Int32)))]) rfl ?_
    refine XS.iloadN X0.here hx rfl (hb hby d1_8) rfl ?_
    refine XS.bipush X0.here hx rfl (hb hby d1_9) ?_
    exact k
  by_cases hc11_2 : ((p0 &&& (2147483647 : Int32)) % (65 : Int32)) < (26 : Int32)
  · obtain ⟨fs, hr, hrun, hended, hW, hsame⟩ := X0.leave (v := some (.int (nar .char (((97 : Int32) + ((p0 &&& (2147483647 : Int32)) % (65 : Int32))).toUInt32.toUInt16.toUInt32.toInt32)))) (fun h => by rw [Bd.returns] at h; cases h)
    refine ⟨_, _, pre1 _ ?_, hrun, hended, _, _, rfl, ?_, ⟨_, rfl⟩, hW, hsame.mono (by decide) (by decide)⟩
    · show Steps p.tables e below (s₁.setTop (mkF m 11 #[.val (.int p0), .val (.int ((p0 &&& (2147483647 : Int32)) % (65 : Int32)))] [(.int (26 : Int32)), (.int ((p0 &&& (2147483647 : Int32)) % (65 : Int32)))])) _
      refine XS.icmpNo X0.here hx rfl (hb hby d1_11) rfl (tlt hc11_2).2.1 ?_
      refine XS.bipush X0.here hx rfl (hb hby d1_14) ?_
      refine XS.iloadN X0.here hx rfl (hb hby d1_16) rfl ?_
      refine XS.iadd X0.here hx rfl (hb hby d1_17) rfl ?_
      refine XS.i2c X0.here hx rfl (hb hby d1_18) rfl ?_
      exact retN X0 hx (t := .char) Bd.returns (by simp) (hb hby d1_19) hr
    · show Q1 Z p0 h0 n0 _ s₁.heap _
      rw [e0]
      exact ⟨by unfold f1; rw [if_pos hc11_2], N0, rfl⟩
  · have pre3 : ∀ t, Steps p.tables e below (s₁.setTop (mkF m 23 #[.val (.int p0), .val (.int ((p0 &&& (2147483647 : Int32)) % (65 : Int32)))] [(.int (52 : Int32)), (.int ((p0 &&& (2147483647 : Int32)) % (65 : Int32)))])) t → Steps p.tables e below (s₁.setTop (entryFrame m #[(.int p0)] 2)) t := by
      intro t k
      refine pre1 t ?_
      show Steps p.tables e below (s₁.setTop (mkF m 11 #[.val (.int p0), .val (.int ((p0 &&& (2147483647 : Int32)) % (65 : Int32)))] [(.int (26 : Int32)), (.int ((p0 &&& (2147483647 : Int32)) % (65 : Int32)))])) _
      refine XS.icmpYes X0.here hx rfl (pc0 := 11) (pc' := 20) rfl (hb hby d1_11) rfl (flt hc11_2).2.1 (by decide) (by decide) ?_
      refine XS.iloadN X0.here hx rfl (hb hby d1_20) rfl ?_
      refine XS.bipush X0.here hx rfl (hb hby d1_21) ?_
      exact k
    by_cases hc23_4 : ((p0 &&& (2147483647 : Int32)) % (65 : Int32)) < (52 : Int32)
    · obtain ⟨fs, hr, hrun, hended, hW, hsame⟩ := X0.leave (v := some (.int (nar .char (((65 : Int32) + (((p0 &&& (2147483647 : Int32)) % (65 : Int32)) - (26 : Int32))).toUInt32.toUInt16.toUInt32.toInt32)))) (fun h => by rw [Bd.returns] at h; cases h)
      refine ⟨_, _, pre3 _ ?_, hrun, hended, _, _, rfl, ?_, ⟨_, rfl⟩, hW, hsame.mono (by decide) (by decide)⟩
      · show Steps p.tables e below (s₁.setTop (mkF m 23 #[.val (.int p0), .val (.int ((p0 &&& (2147483647 : Int32)) % (65 : Int32)))] [(.int (52 : Int32)), (.int ((p0 &&& (2147483647 : Int32)) % (65 : Int32)))])) _
        refine XS.icmpNo X0.here hx rfl (hb hby d1_23) rfl (tlt hc23_4).2.1 ?_
        refine XS.bipush X0.here hx rfl (hb hby d1_26) ?_
        refine XS.iloadN X0.here hx rfl (hb hby d1_28) rfl ?_
        refine XS.bipush X0.here hx rfl (hb hby d1_29) ?_
        refine XS.isub X0.here hx rfl (hb hby d1_31) rfl ?_
        refine XS.iadd X0.here hx rfl (hb hby d1_32) rfl ?_
        refine XS.i2c X0.here hx rfl (hb hby d1_33) rfl ?_
        exact retN X0 hx (t := .char) Bd.returns (by simp) (hb hby d1_34) hr
      · show Q1 Z p0 h0 n0 _ s₁.heap _
        rw [e0]
        exact ⟨by unfold f1; rw [if_neg hc11_2, if_pos hc23_4], N0, rfl⟩
    · have pre5 : ∀ t, Steps p.tables e below (s₁.setTop (mkF m 38 #[.val (.int p0), .val (.int ((p0 &&& (2147483647 : Int32)) % (65 : Int32)))] [(.int (62 : Int32)), (.int ((p0 &&& (2147483647 : Int32)) % (65 : Int32)))])) t → Steps p.tables e below (s₁.setTop (entryFrame m #[(.int p0)] 2)) t := by
        intro t k
        refine pre3 t ?_
        show Steps p.tables e below (s₁.setTop (mkF m 23 #[.val (.int p0), .val (.int ((p0 &&& (2147483647 : Int32)) % (65 : Int32)))] [(.int (52 : Int32)), (.int ((p0 &&& (2147483647 : Int32)) % (65 : Int32)))])) _
        refine XS.icmpYes X0.here hx rfl (pc0 := 23) (pc' := 35) rfl (hb hby d1_23) rfl (flt hc23_4).2.1 (by decide) (by decide) ?_
        refine XS.iloadN X0.here hx rfl (hb hby d1_35) rfl ?_
        refine XS.bipush X0.here hx rfl (hb hby d1_36) ?_
        exact k
      by_cases hc38_6 : ((p0 &&& (2147483647 : Int32)) % (65 : Int32)) < (62 : Int32)
      · obtain ⟨fs, hr, hrun, hended, hW, hsame⟩ := X0.leave (v := some (.int (nar .char (((48 : Int32) + (((p0 &&& (2147483647 : Int32)) % (65 : Int32)) - (52 : Int32))).toUInt32.toUInt16.toUInt32.toInt32)))) (fun h => by rw [Bd.returns] at h; cases h)
        refine ⟨_, _, pre5 _ ?_, hrun, hended, _, _, rfl, ?_, ⟨_, rfl⟩, hW, hsame.mono (by decide) (by decide)⟩
        · show Steps p.tables e below (s₁.setTop (mkF m 38 #[.val (.int p0), .val (.int ((p0 &&& (2147483647 : Int32)) % (65 : Int32)))] [(.int (62 : Int32)), (.int ((p0 &&& (2147483647 : Int32)) % (65 : Int32)))])) _
          refine XS.icmpNo X0.here hx rfl (hb hby d1_38) rfl (tlt hc38_6).2.1 ?_
          refine XS.bipush X0.here hx rfl (hb hby d1_41) ?_
          refine XS.iloadN X0.here hx rfl (hb hby d1_43) rfl ?_
          refine XS.bipush X0.here hx rfl (hb hby d1_44) ?_
          refine XS.isub X0.here hx rfl (hb hby d1_46) rfl ?_
          refine XS.iadd X0.here hx rfl (hb hby d1_47) rfl ?_
          refine XS.i2c X0.here hx rfl (hb hby d1_48) rfl ?_
          exact retN X0 hx (t := .char) Bd.returns (by simp) (hb hby d1_49) hr
        · show Q1 Z p0 h0 n0 _ s₁.heap _
          rw [e0]
          exact ⟨by unfold f1; rw [if_neg hc11_2, if_neg hc23_4, if_pos hc38_6], N0, rfl⟩
      · have pre7 : ∀ t, Steps p.tables e below (s₁.setTop (mkF m 53 #[.val (.int p0), .val (.int ((p0 &&& (2147483647 : Int32)) % (65 : Int32)))] [(.int (62 : Int32)), (.int ((p0 &&& (2147483647 : Int32)) % (65 : Int32)))])) t → Steps p.tables e below (s₁.setTop (entryFrame m #[(.int p0)] 2)) t := by
          intro t k
          refine pre5 t ?_
          show Steps p.tables e below (s₁.setTop (mkF m 38 #[.val (.int p0), .val (.int ((p0 &&& (2147483647 : Int32)) % (65 : Int32)))] [(.int (62 : Int32)), (.int ((p0 &&& (2147483647 : Int32)) % (65 : Int32)))])) _
          refine XS.icmpYes X0.here hx rfl (pc0 := 38) (pc' := 50) rfl (hb hby d1_38) rfl (flt hc38_6).2.1 (by decide) (by decide) ?_
          refine XS.iloadN X0.here hx rfl (hb hby d1_50) rfl ?_
          refine XS.bipush X0.here hx rfl (hb hby d1_51) ?_
          exact k
        by_cases hc53_8 : ((p0 &&& (2147483647 : Int32)) % (65 : Int32)) = (62 : Int32)
        · obtain ⟨fs, hr, hrun, hended, hW, hsame⟩ := X0.leave (v := some (.int (46 : Int32))) (fun h => by rw [Bd.returns] at h; cases h)
          refine ⟨_, _, pre7 _ ?_, hrun, hended, _, _, rfl, ?_, ⟨_, rfl⟩, hW, hsame.mono (by decide) (by decide)⟩
          · show Steps p.tables e below (s₁.setTop (mkF m 53 #[.val (.int p0), .val (.int ((p0 &&& (2147483647 : Int32)) % (65 : Int32)))] [(.int (62 : Int32)), (.int ((p0 &&& (2147483647 : Int32)) % (65 : Int32)))])) _
            refine XS.icmpNo X0.here hx rfl (hb hby d1_53) rfl (teq hc53_8).2 ?_
            refine XS.bipush X0.here hx rfl (hb hby d1_56) ?_
            exact retN X0 hx (t := .char) Bd.returns (by simp) (hb hby d1_58) hr
          · show Q1 Z p0 h0 n0 _ s₁.heap _
            rw [e0]
            exact ⟨by unfold f1; rw [if_neg hc11_2, if_neg hc23_4, if_neg hc38_6, if_pos hc53_8], N0, rfl⟩
        · have pre9 : ∀ t, Steps p.tables e below (s₁.setTop (mkF m 62 #[.val (.int p0), .val (.int ((p0 &&& (2147483647 : Int32)) % (65 : Int32)))] [(.int (63 : Int32)), (.int ((p0 &&& (2147483647 : Int32)) % (65 : Int32)))])) t → Steps p.tables e below (s₁.setTop (entryFrame m #[(.int p0)] 2)) t := by
            intro t k
            refine pre7 t ?_
            show Steps p.tables e below (s₁.setTop (mkF m 53 #[.val (.int p0), .val (.int ((p0 &&& (2147483647 : Int32)) % (65 : Int32)))] [(.int (62 : Int32)), (.int ((p0 &&& (2147483647 : Int32)) % (65 : Int32)))])) _
            refine XS.icmpYes X0.here hx rfl (pc0 := 53) (pc' := 59) rfl (hb hby d1_53) rfl (feq hc53_8).2 (by decide) (by decide) ?_
            refine XS.iloadN X0.here hx rfl (hb hby d1_59) rfl ?_
            refine XS.bipush X0.here hx rfl (hb hby d1_60) ?_
            exact k
          by_cases hc62_10 : ((p0 &&& (2147483647 : Int32)) % (65 : Int32)) = (63 : Int32)
          · obtain ⟨fs, hr, hrun, hended, hW, hsame⟩ := X0.leave (v := some (.int (95 : Int32))) (fun h => by rw [Bd.returns] at h; cases h)
            refine ⟨_, _, pre9 _ ?_, hrun, hended, _, _, rfl, ?_, ⟨_, rfl⟩, hW, hsame.mono (by decide) (by decide)⟩
            · show Steps p.tables e below (s₁.setTop (mkF m 62 #[.val (.int p0), .val (.int ((p0 &&& (2147483647 : Int32)) % (65 : Int32)))] [(.int (63 : Int32)), (.int ((p0 &&& (2147483647 : Int32)) % (65 : Int32)))])) _
              refine XS.icmpNo X0.here hx rfl (hb hby d1_62) rfl (teq hc62_10).2 ?_
              refine XS.bipush X0.here hx rfl (hb hby d1_65) ?_
              exact retN X0 hx (t := .char) Bd.returns (by simp) (hb hby d1_67) hr
            · show Q1 Z p0 h0 n0 _ s₁.heap _
              rw [e0]
              exact ⟨by unfold f1; rw [if_neg hc11_2, if_neg hc23_4, if_neg hc38_6, if_neg hc53_8, if_pos hc62_10], N0, rfl⟩
          · obtain ⟨fs, hr, hrun, hended, hW, hsame⟩ := X0.leave (v := some (.int (45 : Int32))) (fun h => by rw [Bd.returns] at h; cases h)
            refine ⟨_, _, pre9 _ ?_, hrun, hended, _, _, rfl, ?_, ⟨_, rfl⟩, hW, hsame.mono (by decide) (by decide)⟩
            · show Steps p.tables e below (s₁.setTop (mkF m 62 #[.val (.int p0), .val (.int ((p0 &&& (2147483647 : Int32)) % (65 : Int32)))] [(.int (63 : Int32)), (.int ((p0 &&& (2147483647 : Int32)) % (65 : Int32)))])) _
              refine XS.icmpYes X0.here hx rfl (pc0 := 62) (pc' := 68) rfl (hb hby d1_62) rfl (feq hc62_10).2 (by decide) (by decide) ?_
              refine XS.bipush X0.here hx rfl (hb hby d1_68) ?_
              exact retN X0 hx (t := .char) Bd.returns (by simp) (hb hby d1_70) hr
            · show Q1 Z p0 h0 n0 _ s₁.heap _
              rw [e0]
              exact ⟨by unfold f1; rw [if_neg hc11_2, if_neg hc23_4, if_neg hc38_6, if_neg hc53_8, if_neg hc62_10], N0, rfl⟩
def own_ok (c : Int32) : Prop := (¬ c < (97 : Int32) ∧ ¬ (122 : Int32) < c) ∨ (¬ c < (65 : Int32) ∧ ¬ (90 : Int32) < c) ∨ (¬ c < (48 : Int32) ∧ ¬ (57 : Int32) < c) ∨ c = (46 : Int32) ∨ c = (95 : Int32) ∨ c = (45 : Int32)
instance (c : Int32) : Decidable (own_ok c) := by unfold own_ok; infer_instance
theorem own_store2 {a0 : Addr} {i v : Int32} {s2 s3 : Slot} (h : One s2) : storeLocals #[.val (.ref a0), .val (.int i), s2, s3] 2 (.int v) = some #[.val (.ref a0), .val (.int i), .val (.int v), s3] := by
  rcases h with rfl | ⟨w, rfl, hw⟩
  · rfl
  · cases w <;> first | rfl | (simp [Value.category] at hw)
theorem own_store3 {a0 : Addr} {i v w : Int32} {s3 : Slot} (h : One s3) : storeLocals #[.val (.ref a0), .val (.int i), .val (.int w), s3] 3 (.int v) = some #[.val (.ref a0), .val (.int i), .val (.int w), .val (.int v)] := by
  rcases h with rfl | ⟨w, rfl, hw⟩
  · rfl
  · cases w <;> first | rfl | (simp [Value.category] at hw)
theorem own_ofNat {i n : Nat} (hi : i < n) (hn : n ≤ 4000) : (Int32.ofNat i).toInt = i := Int32.toInt_ofNat_of_lt (by omega)
theorem own_ilt {i n : Nat} (hi : i < n) (hn : n ≤ 4000) : Int32.ofNat i < Int32.ofNat n := by
  rw [Int32.lt_iff_toInt_lt, Int32.toInt_ofNat_of_lt (by omega), Int32.toInt_ofNat_of_lt (by omega)]; omega
theorem own_irr (x : Int32) : ¬ x < x := by rw [Int32.lt_iff_toInt_lt]; omega
theorem own_l200 {n : Nat} (h : n ≤ 200) : ¬ (200 : Int32) < Int32.ofNat n := by
  rw [Int32.lt_iff_toInt_lt, Int32.toInt_ofNat_of_lt (by omega)]; show ¬ (200 : Int) < n; omega
theorem own_getD {cs : List Int32} {i : Nat} (hi : i < cs.length) : cs.getD i 0 ∈ cs := by
  rw [List.getD_eq_getElem?_getD, List.getElem?_eq_getElem hi]; exact List.getElem_mem hi
theorem own_small (n : Nat) (hn : n < 2 ^ 31) (x : Int32) (h0 : 0 ≤ x.toInt) (h1 : x.toInt < n) : ∃ k : Fin n, x = Int32.ofNat k := by
  refine ⟨⟨x.toInt.toNat, by omega⟩, ?_⟩
  apply Int32.toInt_inj.mp
  rw [Int32.toInt_ofNat_of_lt (by show x.toInt.toNat < 2 ^ 31; omega)]
  show x.toInt = (x.toInt.toNat : Int)
  omega
theorem own_65 (p : Int32) : ∃ k : Fin 65, (p &&& (2147483647 : Int32)) % (65 : Int32) = Int32.ofNat k := by
  have e1 : (p &&& 2147483647).toInt = p.toInt % 2 ^ 31 := Jvm.Kit.i32_mask p 2147483647 (k := 31) (by decide) (by decide)
  have e2 : ((p &&& (2147483647 : Int32)) % (65 : Int32)).toInt = (p.toInt % 2 ^ 31) % 65 := by
    rw [Jvm.Kit.i32_rem_nonneg (by rw [e1]; omega), e1]; rfl
  exact own_small 65 (by decide) _ (by omega) (by omega)
theorem own_n4 {p v : Int32} (hv : v = ((1 : Int32) + (p &&& (3 : Int32)))) : v = 1 ∨ v = 2 ∨ v = 3 ∨ v = 4 := by
  have e1 : (1 : Int32).toInt = 1 := by decide
  have e2 : (2 : Int32).toInt = 2 := by decide
  have e3 : (3 : Int32).toInt = 3 := by decide
  have e4 : (4 : Int32).toInt = 4 := by decide
  have m : (p &&& 3).toInt = p.toInt % 2 ^ 2 := Jvm.Kit.i32_mask p 3 (k := 2) (by decide) (by decide)
  have a : v.toInt = 1 + p.toInt % 4 := by rw [hv, Jvm.Kit.i32_add (by rw [m, e1]; omega) (by rw [m, e1]; omega), m, e1]; omega
  simp only [← Int32.toInt_inj, e1, e2, e3, e4]
  omega
def own_g (k : Int32) : Int32 := (if k < (26 : Int32) then (nar .char (((97 : Int32) + k).toUInt32.toUInt16.toUInt32.toInt32)) else (if k < (52 : Int32) then (nar .char (((65 : Int32) + (k - (26 : Int32))).toUInt32.toUInt16.toUInt32.toInt32)) else (if k < (62 : Int32) then (nar .char (((48 : Int32) + (k - (52 : Int32))).toUInt32.toUInt16.toUInt32.toInt32)) else (if k = (62 : Int32) then (46 : Int32) else (if k = (63 : Int32) then (95 : Int32) else (45 : Int32))))))
theorem own_f1g (p : Int32) : f1 p = own_g ((p &&& (2147483647 : Int32)) % (65 : Int32)) := rfl
theorem own_all : ∀ k : Fin 65, nar .char (own_g (Int32.ofNat k)) = own_g (Int32.ofNat k) ∧ (¬ own_g (Int32.ofNat k) < 0 ∧ ¬ (255 : Int32) < own_g (Int32.ofNat k)) ∧ own_ok (own_g (Int32.ofNat k)) := by decide +kernel
theorem own_fact (p : Int32) : nar .char (f1 p) = f1 p ∧ (¬ f1 p < 0 ∧ ¬ (255 : Int32) < f1 p) ∧ own_ok (f1 p) := by
  obtain ⟨k, hk⟩ := own_65 p
  rw [own_f1g, hk]; exact own_all k
theorem own_narc (p : Int32) : nar .char (f1 p) = f1 p := (own_fact p).1
theorem own_rg (p : Int32) : ¬ nar .char (f1 p) < 0 ∧ ¬ (255 : Int32) < nar .char (f1 p) := by rw [own_narc]; exact (own_fact p).2.1
theorem own_okk (p : Int32) : own_ok (nar .char (f1 p)) := by rw [own_narc]; exact (own_fact p).2.2
theorem own_hp1 (a : Int32) : ∀ c ∈ ([(nar .char (f1 a))] : List Int32), ¬ c < 0 ∧ ¬ (255 : Int32) < c := by
  intro c hc; simp only [List.mem_cons, List.not_mem_nil, or_false] at hc; subst hc; exact own_rg a
theorem own_hp2 (a b : Int32) : ∀ c ∈ ([(nar .char (f1 a)), (nar .char (f1 b))] : List Int32), ¬ c < 0 ∧ ¬ (255 : Int32) < c := by
  intro c hc; simp only [List.mem_cons, List.not_mem_nil, or_false] at hc; rcases hc with rfl | rfl <;> exact own_rg _
theorem own_hp3 (a b d : Int32) : ∀ c ∈ ([(nar .char (f1 a)), (nar .char (f1 b)), (nar .char (f1 d))] : List Int32), ¬ c < 0 ∧ ¬ (255 : Int32) < c := by
  intro c hc; simp only [List.mem_cons, List.not_mem_nil, or_false] at hc; rcases hc with rfl | rfl | rfl <;> exact own_rg _
theorem own_hp4 (a b d e : Int32) : ∀ c ∈ ([(nar .char (f1 a)), (nar .char (f1 b)), (nar .char (f1 d)), (nar .char (f1 e))] : List Int32), ¬ c < 0 ∧ ¬ (255 : Int32) < c := by
  intro c hc; simp only [List.mem_cons, List.not_mem_nil, or_false] at hc; rcases hc with rfl | rfl | rfl | rfl <;> exact own_rg _
theorem own_hok1 (a : Int32) : ∀ c ∈ ([(nar .char (f1 a))] : List Int32), own_ok c := by
  intro c hc; simp only [List.mem_cons, List.not_mem_nil, or_false] at hc; subst hc; exact own_okk a
theorem own_hok2 (a b : Int32) : ∀ c ∈ ([(nar .char (f1 a)), (nar .char (f1 b))] : List Int32), own_ok c := by
  intro c hc; simp only [List.mem_cons, List.not_mem_nil, or_false] at hc; rcases hc with rfl | rfl <;> exact own_okk _
theorem own_hok3 (a b d : Int32) : ∀ c ∈ ([(nar .char (f1 a)), (nar .char (f1 b)), (nar .char (f1 d))] : List Int32), own_ok c := by
  intro c hc; simp only [List.mem_cons, List.not_mem_nil, or_false] at hc; rcases hc with rfl | rfl | rfl <;> exact own_okk _
theorem own_hok4 (a b d e : Int32) : ∀ c ∈ ([(nar .char (f1 a)), (nar .char (f1 b)), (nar .char (f1 d)), (nar .char (f1 e))] : List Int32), own_ok c := by
  intro c hc; simp only [List.mem_cons, List.not_mem_nil, or_false] at hc; rcases hc with rfl | rfl | rfl | rfl <;> exact own_okk _
theorem own_neI {t : Term} {k : Int32} {args : Array Value} {s : State} {x : Int32} (ht : t.eval args s none [] s = some (.int x)) (h : (Cond.not (.eq t (.int k))).value args s none s [] = some true) : ¬ (x = k) := by
  have q := not_v h
  intro e
  simp [Cond.value, ht, Term.eval, e] at q

theorem pd_0 : parseMethodDescriptor "()I" = some ⟨[], some .int⟩ := by decide +kernel
theorem pd_1 : parseMethodDescriptor "(I)C" = some ⟨[.int], some .char⟩ := by decide +kernel
theorem own_allow {c : Int32} (h : own_ok c) : ¬ ((if c < (97 : Int32) then (if c < (65 : Int32) then (if c < (48 : Int32) then (if c = (46 : Int32) then (1 : Int32) else (if c = (95 : Int32) then (1 : Int32) else (if c = (45 : Int32) then (1 : Int32) else (0 : Int32)))) else (if (57 : Int32) < c then (if c = (46 : Int32) then (1 : Int32) else (if c = (95 : Int32) then (1 : Int32) else (if c = (45 : Int32) then (1 : Int32) else (0 : Int32)))) else (1 : Int32))) else (if (90 : Int32) < c then (if c < (48 : Int32) then (if c = (46 : Int32) then (1 : Int32) else (if c = (95 : Int32) then (1 : Int32) else (if c = (45 : Int32) then (1 : Int32) else (0 : Int32)))) else (if (57 : Int32) < c then (if c = (46 : Int32) then (1 : Int32) else (if c = (95 : Int32) then (1 : Int32) else (if c = (45 : Int32) then (1 : Int32) else (0 : Int32)))) else (1 : Int32))) else (1 : Int32))) else (if (122 : Int32) < c then (if c < (65 : Int32) then (if c < (48 : Int32) then (if c = (46 : Int32) then (1 : Int32) else (if c = (95 : Int32) then (1 : Int32) else (if c = (45 : Int32) then (1 : Int32) else (0 : Int32)))) else (if (57 : Int32) < c then (if c = (46 : Int32) then (1 : Int32) else (if c = (95 : Int32) then (1 : Int32) else (if c = (45 : Int32) then (1 : Int32) else (0 : Int32)))) else (1 : Int32))) else (if (90 : Int32) < c then (if c < (48 : Int32) then (if c = (46 : Int32) then (1 : Int32) else (if c = (95 : Int32) then (1 : Int32) else (if c = (45 : Int32) then (1 : Int32) else (0 : Int32)))) else (if (57 : Int32) < c then (if c = (46 : Int32) then (1 : Int32) else (if c = (95 : Int32) then (1 : Int32) else (if c = (45 : Int32) then (1 : Int32) else (0 : Int32)))) else (1 : Int32))) else (1 : Int32))) else (1 : Int32))) = (0 : Int32)) := by
  have e97 : (97 : Int32).toInt = 97 := by decide
  have e122 : (122 : Int32).toInt = 122 := by decide
  have e65 : (65 : Int32).toInt = 65 := by decide
  have e90 : (90 : Int32).toInt = 90 := by decide
  have e48 : (48 : Int32).toInt = 48 := by decide
  have e57 : (57 : Int32).toInt = 57 := by decide
  have e46 : (46 : Int32).toInt = 46 := by decide
  have e95 : (95 : Int32).toInt = 95 := by decide
  have e45 : (45 : Int32).toInt = 45 := by decide
  intro q
  unfold own_ok at h
  simp only [Int32.lt_iff_toInt_lt, ← Int32.toInt_inj, e97, e122, e65, e90, e48, e57, e46, e95, e45] at h q
  repeat' split at q
  all_goals first | (exact absurd q (by decide)) | omega

theorem d8_49 : decode prog_5_method_2_code 49 = .ok (.iload_n 1, 1) := by decide +kernel
theorem d8_50 : decode prog_5_method_2_code 50 = .ok (.aload_n 0, 1) := by decide +kernel
theorem d8_51 : decode prog_5_method_2_code 51 = .ok (.invokevirtual 13, 3) := by decide +kernel
theorem d8_54 : decode prog_5_method_2_code 54 = .ok (.if_icmp .ge 93, 3) := by decide +kernel
theorem d8_57 : decode prog_5_method_2_code 57 = .ok (.aload_n 0, 1) := by decide +kernel
theorem d8_58 : decode prog_5_method_2_code 58 = .ok (.iload_n 1, 1) := by decide +kernel
theorem d8_59 : decode prog_5_method_2_code 59 = .ok (.invokevirtual 36, 3) := by decide +kernel
theorem d8_62 : decode prog_5_method_2_code 62 = .ok (.istore_n 2, 1) := by decide +kernel
theorem d8_63 : decode prog_5_method_2_code 63 = .ok (.iload_n 2, 1) := by decide +kernel
theorem d8_64 : decode prog_5_method_2_code 64 = .ok (.bipush 97, 2) := by decide +kernel
theorem d8_66 : decode prog_5_method_2_code 66 = .ok (.if_icmp .lt 9, 3) := by decide +kernel
theorem d8_69 : decode prog_5_method_2_code 69 = .ok (.iload_n 2, 1) := by decide +kernel
theorem d8_70 : decode prog_5_method_2_code 70 = .ok (.bipush 122, 2) := by decide +kernel
theorem d8_72 : decode prog_5_method_2_code 72 = .ok (.if_icmp .le 45, 3) := by decide +kernel
theorem d8_75 : decode prog_5_method_2_code 75 = .ok (.iload_n 2, 1) := by decide +kernel
theorem d8_76 : decode prog_5_method_2_code 76 = .ok (.bipush 65, 2) := by decide +kernel
theorem d8_78 : decode prog_5_method_2_code 78 = .ok (.if_icmp .lt 9, 3) := by decide +kernel
theorem d8_81 : decode prog_5_method_2_code 81 = .ok (.iload_n 2, 1) := by decide +kernel
theorem d8_82 : decode prog_5_method_2_code 82 = .ok (.bipush 90, 2) := by decide +kernel
theorem d8_84 : decode prog_5_method_2_code 84 = .ok (.if_icmp .le 33, 3) := by decide +kernel
theorem d8_87 : decode prog_5_method_2_code 87 = .ok (.iload_n 2, 1) := by decide +kernel
theorem d8_88 : decode prog_5_method_2_code 88 = .ok (.bipush 48, 2) := by decide +kernel
theorem d8_90 : decode prog_5_method_2_code 90 = .ok (.if_icmp .lt 9, 3) := by decide +kernel
theorem d8_93 : decode prog_5_method_2_code 93 = .ok (.iload_n 2, 1) := by decide +kernel
theorem d8_94 : decode prog_5_method_2_code 94 = .ok (.bipush 57, 2) := by decide +kernel
theorem d8_96 : decode prog_5_method_2_code 96 = .ok (.if_icmp .le 21, 3) := by decide +kernel
theorem d8_99 : decode prog_5_method_2_code 99 = .ok (.iload_n 2, 1) := by decide +kernel
theorem d8_100 : decode prog_5_method_2_code 100 = .ok (.bipush 46, 2) := by decide +kernel
theorem d8_102 : decode prog_5_method_2_code 102 = .ok (.if_icmp .eq 15, 3) := by decide +kernel
theorem d8_105 : decode prog_5_method_2_code 105 = .ok (.iload_n 2, 1) := by decide +kernel
theorem d8_106 : decode prog_5_method_2_code 106 = .ok (.bipush 95, 2) := by decide +kernel
theorem d8_108 : decode prog_5_method_2_code 108 = .ok (.if_icmp .eq 9, 3) := by decide +kernel
theorem d8_111 : decode prog_5_method_2_code 111 = .ok (.iload_n 2, 1) := by decide +kernel
theorem d8_112 : decode prog_5_method_2_code 112 = .ok (.bipush 45, 2) := by decide +kernel
theorem d8_114 : decode prog_5_method_2_code 114 = .ok (.if_icmp .ne 7, 3) := by decide +kernel
theorem d8_117 : decode prog_5_method_2_code 117 = .ok (.iconst 1, 1) := by decide +kernel
theorem d8_118 : decode prog_5_method_2_code 118 = .ok (.goto 4, 3) := by decide +kernel
theorem d8_121 : decode prog_5_method_2_code 121 = .ok (.iconst 0, 1) := by decide +kernel
theorem d8_122 : decode prog_5_method_2_code 122 = .ok (.istore_n 3, 1) := by decide +kernel
theorem d8_123 : decode prog_5_method_2_code 123 = .ok (.iload_n 3, 1) := by decide +kernel
theorem d8_124 : decode prog_5_method_2_code 124 = .ok (.ifCond .ne 17, 3) := by decide +kernel
theorem d8_141 : decode prog_5_method_2_code 141 = .ok (.iinc 1 1, 3) := by decide +kernel
theorem d8_144 : decode prog_5_method_2_code 144 = .ok (.goto (-95), 3) := by decide +kernel
set_option maxRecDepth 65536 in
set_option maxHeartbeats 40000000 in
theorem own_turn {p : Program} {l : Launch} {e : Env} {R : Room} {s : State} {m : MethodId} {args : Array Value} {below : List Frame} {meth : Method} {c : Code} {T0 : State} {locs : List Loc} {cells slots : Nat} {Z : State} {ar0 : Array Value} {h0 : Heap} {a0 : Addr} {i : Nat} {s2 : Slot} {s3 : Slot} {gc1 : Int32} {gf3 : Value} {t : Addr} {k_t : ClassId} {cs : List Int32} {nz : Int32}
    (X0 : Stand p l e R s m args below meth c T0 locs cells slots) (hx : p.tables.exec = Jvm.exec) (hZ : Z.Warmed39 s.vm) (hw : ∀ d ∈ tables_1, d.before ar0 Z = true) (hby : c.code = prog_5_method_2_code) (hml : c.maxLocals = 4) (hown : s.vm.findClass "com/example/loomfilter/loomfilter/core/Layout" = some m.cls) (e0 : T0.heap = h0) (hs2 : One s2) (hs3 : One s3) (S1 : Sta Z h0 "java/lang/String" "COMPACT_STRINGS" "Z" (.int gc1)) (S2 : Sta Z h0 "jdk/internal/util/Preconditions" "SIOOBE_FORMATTER" "Ljava/util/function/BiFunction;" gf3) (E1 : Exa Z h0 a0 "java/lang/String") (F1 : Fld Z h0 a0 "java/lang/String" "value" "[B" (.ref t)) (F2 : Fld Z h0 a0 "java/lang/String" "coder" "B" (.int (0 : Int32))) (B1 : Arv Z h0 t k_t .byte nz (((cs : List Int32).map (fun c => c.toInt8.toInt32)).map Value.int) (.int (0 : Int32))) (P5 : ¬ (gc1 = (0 : Int32))) (rG3 : gf3.isRef = true) (hcd : StrChars.Road.CodA cs 0 nz ((cs.map (fun c => c.toInt8.toInt32)).map Value.int)) (hbd : ∀ c ∈ cs, ¬ c < 0 ∧ ¬ (65535 : Int32) < c) (h4 : cs.length ≤ 4000) (hok : ∀ c ∈ cs, own_ok c) (hi : i < cs.length) (hfr : 4 ≤ R.frames) (hlo : 60 ≤ R.locals) (hcl : cells ≤ R.cells) (hsl : slots ≤ R.slots) :
    ∃ (T' : State) (z3 : Int32), Stand p l e R s m args below meth c T' locs cells slots ∧ T'.heap = h0 ∧ ∀ t, Steps p.tables e below (T'.setTop (mkF m 49 #[.val (.ref a0), .val (.int ((Int32.ofNat i) + (1 : Int32))), .val (.int ((cs : List Int32).getD i 0)), .val (.int z3)] [])) t → Steps p.tables e below (T0.setTop (mkF m 49 #[.val (.ref a0), .val (.int (Int32.ofNat i)), s2, s3] [])) t := by
  have pre0 : ∀ t, Steps p.tables e below (T0.setTop (mkF m 49 #[.val (.ref a0), .val (.int (Int32.ofNat i)), s2, s3] [])) t → Steps p.tables e below (T0.setTop (mkF m 49 #[.val (.ref a0), .val (.int (Int32.ofNat i)), s2, s3] [])) t := fun t k => k
  have pre11 : ∀ t, Steps p.tables e below (T0.setTop (mkF m 51 #[.val (.ref a0), .val (.int (Int32.ofNat i)), s2, s3] [(.ref a0), (.int (Int32.ofNat i))])) t → Steps p.tables e below (T0.setTop (mkF m 49 #[.val (.ref a0), .val (.int (Int32.ofNat i)), s2, s3] [])) t := by
    intro t k
    refine pre0 t ?_
    show Steps p.tables e below (T0.setTop (mkF m 49 #[.val (.ref a0), .val (.int (Int32.ofNat i)), s2, s3] [])) _
    refine XS.iloadN X0.here hx rfl (hb hby d8_49) rfl ?_
    refine XS.aloadN X0.here hx rfl (hb hby d8_50) rfl rfl ?_
    exact k
  obtain ⟨cq12, kq12, q12a, q12b, q12c⟩ := isOf hZ e0 E1
  obtain ⟨_, _, ⟨T12, L12, k12, n12⟩, -, X12, ⟨Lc12, hQ12, l12, y12, z12⟩, st12⟩ := X0.virtualBack hx (y := (⟨"java/lang/String", "length", "()I"⟩ : MethodName)) (z := (⟨"java/lang/String", "length", "()I"⟩ : MethodName)) hown (mvT hZ (hw _ (List.mem_of_getElem? (i := 44) rfl))) (mvT hZ (hw _ (List.mem_of_getElem? (i := 45) rfl))) (notFace_of_selects (args := #[]) (mvT hZ (hw _ (List.mem_of_getElem? (i := 47) rfl)))) (mvT hZ (hw _ (List.mem_of_getElem? (i := 47) rfl))) (mvT hZ (hw _ (List.mem_of_getElem? (i := 46) rfl))) (by decide) (StrChars.Road.lenW (W := 1) hZ (own_wordsLen hw) (kI := 4) (hw _ (List.mem_of_getElem? (i := 7) rfl)) E1 F1 F2 B1 hcd hbd S1 P5 h4 (by omega) (by omega)) q12a q12c (g := (mkF m 51 #[.val (.ref a0), .val (.int (Int32.ofNat i)), s2, s3] [(.ref a0), (.int (Int32.ofNat i))])) rfl (by rw [hml]; rfl) (Steps.refl _) (argsL := []) (rest := [(.int (Int32.ofNat i))]) (lenOf pd_0 rfl) rfl (by show 2 * 0 + _ ≤ _; exact Nat.le_of_eq rfl) (hb hby d8_51) (fun _ _ => ⟨rfl, e0, hcl, hsl⟩)
  dsimp only [Pt.U, Pt.locs, Pt.cells, Pt.slots] at X12 l12 y12 z12 st12 hQ12
  subst l12 y12 z12
  obtain ⟨rfl, rfl, e12⟩ := hQ12
  try rw [List.append_nil] at X12
  have pre13 : ∀ t, Steps p.tables e below (T12.setTop (mkF m 54 #[.val (.ref a0), .val (.int (Int32.ofNat i)), s2, s3] [(.int (Int32.ofNat (cs : List Int32).length)), (.int (Int32.ofNat i))])) t → Steps p.tables e below (T0.setTop (mkF m 49 #[.val (.ref a0), .val (.int (Int32.ofNat i)), s2, s3] [])) t := fun t k => pre11 t (st12.trans k)
  have hk14 : (Int32.ofNat i) < (Int32.ofNat (cs : List Int32).length) := own_ilt hi h4
  have pre15 : ∀ t, Steps p.tables e below (T12.setTop (mkF m 59 #[.val (.ref a0), .val (.int (Int32.ofNat i)), s2, s3] [(.int (Int32.ofNat i)), (.ref a0)])) t → Steps p.tables e below (T0.setTop (mkF m 49 #[.val (.ref a0), .val (.int (Int32.ofNat i)), s2, s3] [])) t := by
    intro t k
    refine pre13 t ?_
    show Steps p.tables e below (T12.setTop (mkF m 54 #[.val (.ref a0), .val (.int (Int32.ofNat i)), s2, s3] [(.int (Int32.ofNat (cs : List Int32).length)), (.int (Int32.ofNat i))])) _
    refine XS.icmpNo X12.here hx rfl (hb hby d8_54) rfl (tlt hk14).2.1 ?_
    refine XS.aloadN X12.here hx rfl (hb hby d8_57) rfl rfl ?_
    refine XS.iloadN X12.here hx rfl (hb hby d8_58) rfl ?_
    exact k
  obtain ⟨cq16, kq16, q16a, q16b, q16c⟩ := isOf hZ e12 E1
  obtain ⟨_, _, ⟨T16, L16, k16, n16⟩, -, X16, ⟨Lc16, hQ16, l16, y16, z16⟩, st16⟩ := X12.virtualBack hx (y := (⟨"java/lang/String", "charAt", "(I)C"⟩ : MethodName)) (z := (⟨"java/lang/String", "charAt", "(I)C"⟩ : MethodName)) hown (mvT hZ (hw _ (List.mem_of_getElem? (i := 54) rfl))) (mvT hZ (hw _ (List.mem_of_getElem? (i := 55) rfl))) (notFace_of_selects (args := #[]) (mvT hZ (hw _ (List.mem_of_getElem? (i := 57) rfl)))) (mvT hZ (hw _ (List.mem_of_getElem? (i := 57) rfl))) (mvT hZ (hw _ (List.mem_of_getElem? (i := 56) rfl))) (by decide) (StrChars.Road.chN (W := 0) hZ (own_wordsChN hw) (kI := 4) (hw _ (List.mem_of_getElem? (i := 7) rfl)) E1 F1 F2 B1 hcd hbd S1 P5 S2 rG3 h4 (i := i) hi (j := (Int32.ofNat i)) rfl (by omega) (by omega)) q16a q16c (g := (mkF m 59 #[.val (.ref a0), .val (.int (Int32.ofNat i)), s2, s3] [(.int (Int32.ofNat i)), (.ref a0)])) rfl (by rw [hml]; rfl) (Steps.refl _) (argsL := [(.int (Int32.ofNat i))]) (rest := []) (lenOf pd_1 rfl) rfl (by show 2 * 0 + _ ≤ _; exact Nat.le_of_eq rfl) (hb hby d8_59) (fun _ _ => ⟨rfl, e12, hcl, hsl⟩)
  dsimp only [Pt.U, Pt.locs, Pt.cells, Pt.slots] at X16 l16 y16 z16 st16 hQ16
  subst l16 y16 z16
  obtain ⟨rfl, rfl, e16⟩ := hQ16
  try rw [List.append_nil] at X16
  have pre17 : ∀ t, Steps p.tables e below (T16.setTop (mkF m 62 #[.val (.ref a0), .val (.int (Int32.ofNat i)), s2, s3] [(.int ((cs : List Int32).getD i 0))])) t → Steps p.tables e below (T0.setTop (mkF m 49 #[.val (.ref a0), .val (.int (Int32.ofNat i)), s2, s3] [])) t := fun t k => pre15 t (st16.trans k)
  have pre18 : ∀ t, Steps p.tables e below (T16.setTop (mkF m 66 #[.val (.ref a0), .val (.int (Int32.ofNat i)), .val (.int ((cs : List Int32).getD i 0)), s3] [(.int (97 : Int32)), (.int ((cs : List Int32).getD i 0))])) t → Steps p.tables e below (T0.setTop (mkF m 49 #[.val (.ref a0), .val (.int (Int32.ofNat i)), s2, s3] [])) t := by
    intro t k
    refine pre17 t ?_
    show Steps p.tables e below (T16.setTop (mkF m 62 #[.val (.ref a0), .val (.int (Int32.ofNat i)), s2, s3] [(.int ((cs : List Int32).getD i 0))])) _
    refine XS.istoreN X16.here hx rfl (hb hby d8_62) rfl (l' := #[.val (.ref a0), .val (.int (Int32.ofNat i)), .val (.int ((cs : List Int32).getD i 0)), s3]) (own_store2 hs2) ?_
    refine XS.iloadN X16.here hx rfl (hb hby d8_63) rfl ?_
    refine XS.bipush X16.here hx rfl (hb hby d8_64) ?_
    exact k
  obtain ⟨v133, pre134, hv133⟩ : ∃ (v133 : Int32), (∀ t, Steps p.tables e below (T16.setTop (mkF m 122 #[.val (.ref a0), .val (.int (Int32.ofNat i)), .val (.int ((cs : List Int32).getD i 0)), s3] [(.int v133)])) t → Steps p.tables e below (T0.setTop (mkF m 49 #[.val (.ref a0), .val (.int (Int32.ofNat i)), s2, s3] [])) t) ∧ v133 = (if ((cs : List Int32).getD i 0) < (97 : Int32) then (if ((cs : List Int32).getD i 0) < (65 : Int32) then (if ((cs : List Int32).getD i 0) < (48 : Int32) then (if ((cs : List Int32).getD i 0) = (46 : Int32) then (1 : Int32) else (if ((cs : List Int32).getD i 0) = (95 : Int32) then (1 : Int32) else (if ((cs : List Int32).getD i 0) = (45 : Int32) then (1 : Int32) else (0 : Int32)))) else (if (57 : Int32) < ((cs : List Int32).getD i 0) then (if ((cs : List Int32).getD i 0) = (46 : Int32) then (1 : Int32) else (if ((cs : List Int32).getD i 0) = (95 : Int32) then (1 : Int32) else (if ((cs : List Int32).getD i 0) = (45 : Int32) then (1 : Int32) else (0 : Int32)))) else (1 : Int32))) else (if (90 : Int32) < ((cs : List Int32).getD i 0) then (if ((cs : List Int32).getD i 0) < (48 : Int32) then (if ((cs : List Int32).getD i 0) = (46 : Int32) then (1 : Int32) else (if ((cs : List Int32).getD i 0) = (95 : Int32) then (1 : Int32) else (if ((cs : List Int32).getD i 0) = (45 : Int32) then (1 : Int32) else (0 : Int32)))) else (if (57 : Int32) < ((cs : List Int32).getD i 0) then (if ((cs : List Int32).getD i 0) = (46 : Int32) then (1 : Int32) else (if ((cs : List Int32).getD i 0) = (95 : Int32) then (1 : Int32) else (if ((cs : List Int32).getD i 0) = (45 : Int32) then (1 : Int32) else (0 : Int32)))) else (1 : Int32))) else (1 : Int32))) else (if (122 : Int32) < ((cs : List Int32).getD i 0) then (if ((cs : List Int32).getD i 0) < (65 : Int32) then (if ((cs : List Int32).getD i 0) < (48 : Int32) then (if ((cs : List Int32).getD i 0) = (46 : Int32) then (1 : Int32) else (if ((cs : List Int32).getD i 0) = (95 : Int32) then (1 : Int32) else (if ((cs : List Int32).getD i 0) = (45 : Int32) then (1 : Int32) else (0 : Int32)))) else (if (57 : Int32) < ((cs : List Int32).getD i 0) then (if ((cs : List Int32).getD i 0) = (46 : Int32) then (1 : Int32) else (if ((cs : List Int32).getD i 0) = (95 : Int32) then (1 : Int32) else (if ((cs : List Int32).getD i 0) = (45 : Int32) then (1 : Int32) else (0 : Int32)))) else (1 : Int32))) else (if (90 : Int32) < ((cs : List Int32).getD i 0) then (if ((cs : List Int32).getD i 0) < (48 : Int32) then (if ((cs : List Int32).getD i 0) = (46 : Int32) then (1 : Int32) else (if ((cs : List Int32).getD i 0) = (95 : Int32) then (1 : Int32) else (if ((cs : List Int32).getD i 0) = (45 : Int32) then (1 : Int32) else (0 : Int32)))) else (if (57 : Int32) < ((cs : List Int32).getD i 0) then (if ((cs : List Int32).getD i 0) = (46 : Int32) then (1 : Int32) else (if ((cs : List Int32).getD i 0) = (95 : Int32) then (1 : Int32) else (if ((cs : List Int32).getD i 0) = (45 : Int32) then (1 : Int32) else (0 : Int32)))) else (1 : Int32))) else (1 : Int32))) else (1 : Int32))) := by
    by_cases hc66_19 : ((cs : List Int32).getD i 0) < (97 : Int32)
    ·
      have pre20 : ∀ t, Steps p.tables e below (T16.setTop (mkF m 78 #[.val (.ref a0), .val (.int (Int32.ofNat i)), .val (.int ((cs : List Int32).getD i 0)), s3] [(.int (65 : Int32)), (.int ((cs : List Int32).getD i 0))])) t → Steps p.tables e below (T0.setTop (mkF m 49 #[.val (.ref a0), .val (.int (Int32.ofNat i)), s2, s3] [])) t := by
        intro t k
        refine pre18 t ?_
        show Steps p.tables e below (T16.setTop (mkF m 66 #[.val (.ref a0), .val (.int (Int32.ofNat i)), .val (.int ((cs : List Int32).getD i 0)), s3] [(.int (97 : Int32)), (.int ((cs : List Int32).getD i 0))])) _
        refine XS.icmpYes X16.here hx rfl (pc0 := 66) (pc' := 75) rfl (hb hby d8_66) rfl (tlt hc66_19).1 (by decide) (by decide) ?_
        refine XS.iloadN X16.here hx rfl (hb hby d8_75) rfl ?_
        refine XS.bipush X16.here hx rfl (hb hby d8_76) ?_
        exact k
      by_cases hc78_21 : ((cs : List Int32).getD i 0) < (65 : Int32)
      ·
        have pre22 : ∀ t, Steps p.tables e below (T16.setTop (mkF m 90 #[.val (.ref a0), .val (.int (Int32.ofNat i)), .val (.int ((cs : List Int32).getD i 0)), s3] [(.int (48 : Int32)), (.int ((cs : List Int32).getD i 0))])) t → Steps p.tables e below (T0.setTop (mkF m 49 #[.val (.ref a0), .val (.int (Int32.ofNat i)), s2, s3] [])) t := by
          intro t k
          refine pre20 t ?_
          show Steps p.tables e below (T16.setTop (mkF m 78 #[.val (.ref a0), .val (.int (Int32.ofNat i)), .val (.int ((cs : List Int32).getD i 0)), s3] [(.int (65 : Int32)), (.int ((cs : List Int32).getD i 0))])) _
          refine XS.icmpYes X16.here hx rfl (pc0 := 78) (pc' := 87) rfl (hb hby d8_78) rfl (tlt hc78_21).1 (by decide) (by decide) ?_
          refine XS.iloadN X16.here hx rfl (hb hby d8_87) rfl ?_
          refine XS.bipush X16.here hx rfl (hb hby d8_88) ?_
          exact k
        by_cases hc90_23 : ((cs : List Int32).getD i 0) < (48 : Int32)
        ·
          have pre24 : ∀ t, Steps p.tables e below (T16.setTop (mkF m 102 #[.val (.ref a0), .val (.int (Int32.ofNat i)), .val (.int ((cs : List Int32).getD i 0)), s3] [(.int (46 : Int32)), (.int ((cs : List Int32).getD i 0))])) t → Steps p.tables e below (T0.setTop (mkF m 49 #[.val (.ref a0), .val (.int (Int32.ofNat i)), s2, s3] [])) t := by
            intro t k
            refine pre22 t ?_
            show Steps p.tables e below (T16.setTop (mkF m 90 #[.val (.ref a0), .val (.int (Int32.ofNat i)), .val (.int ((cs : List Int32).getD i 0)), s3] [(.int (48 : Int32)), (.int ((cs : List Int32).getD i 0))])) _
            refine XS.icmpYes X16.here hx rfl (pc0 := 90) (pc' := 99) rfl (hb hby d8_90) rfl (tlt hc90_23).1 (by decide) (by decide) ?_
            refine XS.iloadN X16.here hx rfl (hb hby d8_99) rfl ?_
            refine XS.bipush X16.here hx rfl (hb hby d8_100) ?_
            exact k
          by_cases hc102_25 : ((cs : List Int32).getD i 0) = (46 : Int32)
          ·
            have pre26 : ∀ t, Steps p.tables e below (T16.setTop (mkF m 122 #[.val (.ref a0), .val (.int (Int32.ofNat i)), .val (.int ((cs : List Int32).getD i 0)), s3] [(.int (1 : Int32))])) t → Steps p.tables e below (T0.setTop (mkF m 49 #[.val (.ref a0), .val (.int (Int32.ofNat i)), s2, s3] [])) t := by
              intro t k
              refine pre24 t ?_
              show Steps p.tables e below (T16.setTop (mkF m 102 #[.val (.ref a0), .val (.int (Int32.ofNat i)), .val (.int ((cs : List Int32).getD i 0)), s3] [(.int (46 : Int32)), (.int ((cs : List Int32).getD i 0))])) _
              refine XS.icmpYes X16.here hx rfl (pc0 := 102) (pc' := 117) rfl (hb hby d8_102) rfl (teq hc102_25).1 (by decide) (by decide) ?_
              refine XS.iconst X16.here hx rfl (hb hby d8_117) ?_
              refine XS.goto X16.here hx rfl (pc0 := 118) (pc' := 122) rfl (hb hby d8_118) (by decide) (by decide) ?_
              exact k
            exact ⟨(1 : Int32), pre26, by rw [if_pos hc66_19, if_pos hc78_21, if_pos hc90_23, if_pos hc102_25]⟩
          ·
            have pre27 : ∀ t, Steps p.tables e below (T16.setTop (mkF m 108 #[.val (.ref a0), .val (.int (Int32.ofNat i)), .val (.int ((cs : List Int32).getD i 0)), s3] [(.int (95 : Int32)), (.int ((cs : List Int32).getD i 0))])) t → Steps p.tables e below (T0.setTop (mkF m 49 #[.val (.ref a0), .val (.int (Int32.ofNat i)), s2, s3] [])) t := by
              intro t k
              refine pre24 t ?_
              show Steps p.tables e below (T16.setTop (mkF m 102 #[.val (.ref a0), .val (.int (Int32.ofNat i)), .val (.int ((cs : List Int32).getD i 0)), s3] [(.int (46 : Int32)), (.int ((cs : List Int32).getD i 0))])) _
              refine XS.icmpNo X16.here hx rfl (hb hby d8_102) rfl (feq hc102_25).1 ?_
              refine XS.iloadN X16.here hx rfl (hb hby d8_105) rfl ?_
              refine XS.bipush X16.here hx rfl (hb hby d8_106) ?_
              exact k
            by_cases hc108_28 : ((cs : List Int32).getD i 0) = (95 : Int32)
            ·
              have pre29 : ∀ t, Steps p.tables e below (T16.setTop (mkF m 122 #[.val (.ref a0), .val (.int (Int32.ofNat i)), .val (.int ((cs : List Int32).getD i 0)), s3] [(.int (1 : Int32))])) t → Steps p.tables e below (T0.setTop (mkF m 49 #[.val (.ref a0), .val (.int (Int32.ofNat i)), s2, s3] [])) t := by
                intro t k
                refine pre27 t ?_
                show Steps p.tables e below (T16.setTop (mkF m 108 #[.val (.ref a0), .val (.int (Int32.ofNat i)), .val (.int ((cs : List Int32).getD i 0)), s3] [(.int (95 : Int32)), (.int ((cs : List Int32).getD i 0))])) _
                refine XS.icmpYes X16.here hx rfl (pc0 := 108) (pc' := 117) rfl (hb hby d8_108) rfl (teq hc108_28).1 (by decide) (by decide) ?_
                refine XS.iconst X16.here hx rfl (hb hby d8_117) ?_
                refine XS.goto X16.here hx rfl (pc0 := 118) (pc' := 122) rfl (hb hby d8_118) (by decide) (by decide) ?_
                exact k
              exact ⟨(1 : Int32), pre29, by rw [if_pos hc66_19, if_pos hc78_21, if_pos hc90_23, if_neg hc102_25, if_pos hc108_28]⟩
            ·
              have pre30 : ∀ t, Steps p.tables e below (T16.setTop (mkF m 114 #[.val (.ref a0), .val (.int (Int32.ofNat i)), .val (.int ((cs : List Int32).getD i 0)), s3] [(.int (45 : Int32)), (.int ((cs : List Int32).getD i 0))])) t → Steps p.tables e below (T0.setTop (mkF m 49 #[.val (.ref a0), .val (.int (Int32.ofNat i)), s2, s3] [])) t := by
                intro t k
                refine pre27 t ?_
                show Steps p.tables e below (T16.setTop (mkF m 108 #[.val (.ref a0), .val (.int (Int32.ofNat i)), .val (.int ((cs : List Int32).getD i 0)), s3] [(.int (95 : Int32)), (.int ((cs : List Int32).getD i 0))])) _
                refine XS.icmpNo X16.here hx rfl (hb hby d8_108) rfl (feq hc108_28).1 ?_
                refine XS.iloadN X16.here hx rfl (hb hby d8_111) rfl ?_
                refine XS.bipush X16.here hx rfl (hb hby d8_112) ?_
                exact k
              by_cases hc114_31 : ((cs : List Int32).getD i 0) = (45 : Int32)
              ·
                have pre32 : ∀ t, Steps p.tables e below (T16.setTop (mkF m 122 #[.val (.ref a0), .val (.int (Int32.ofNat i)), .val (.int ((cs : List Int32).getD i 0)), s3] [(.int (1 : Int32))])) t → Steps p.tables e below (T0.setTop (mkF m 49 #[.val (.ref a0), .val (.int (Int32.ofNat i)), s2, s3] [])) t := by
                  intro t k
                  refine pre30 t ?_
                  show Steps p.tables e below (T16.setTop (mkF m 114 #[.val (.ref a0), .val (.int (Int32.ofNat i)), .val (.int ((cs : List Int32).getD i 0)), s3] [(.int (45 : Int32)), (.int ((cs : List Int32).getD i 0))])) _
                  refine XS.icmpNo X16.here hx rfl (hb hby d8_114) rfl (teq hc114_31).2 ?_
                  refine XS.iconst X16.here hx rfl (hb hby d8_117) ?_
                  refine XS.goto X16.here hx rfl (pc0 := 118) (pc' := 122) rfl (hb hby d8_118) (by decide) (by decide) ?_
                  exact k
                exact ⟨(1 : Int32), pre32, by rw [if_pos hc66_19, if_pos hc78_21, if_pos hc90_23, if_neg hc102_25, if_neg hc108_28, if_pos hc114_31]⟩
              ·
                have pre33 : ∀ t, Steps p.tables e below (T16.setTop (mkF m 122 #[.val (.ref a0), .val (.int (Int32.ofNat i)), .val (.int ((cs : List Int32).getD i 0)), s3] [(.int (0 : Int32))])) t → Steps p.tables e below (T0.setTop (mkF m 49 #[.val (.ref a0), .val (.int (Int32.ofNat i)), s2, s3] [])) t := by
                  intro t k
                  refine pre30 t ?_
                  show Steps p.tables e below (T16.setTop (mkF m 114 #[.val (.ref a0), .val (.int (Int32.ofNat i)), .val (.int ((cs : List Int32).getD i 0)), s3] [(.int (45 : Int32)), (.int ((cs : List Int32).getD i 0))])) _
                  refine XS.icmpYes X16.here hx rfl (pc0 := 114) (pc' := 121) rfl (hb hby d8_114) rfl (feq hc114_31).2 (by decide) (by decide) ?_
                  refine XS.iconst X16.here hx rfl (hb hby d8_121) ?_
                  exact k
                exact ⟨(0 : Int32), pre33, by rw [if_pos hc66_19, if_pos hc78_21, if_pos hc90_23, if_neg hc102_25, if_neg hc108_28, if_neg hc114_31]⟩
        ·
          have pre34 : ∀ t, Steps p.tables e below (T16.setTop (mkF m 96 #[.val (.ref a0), .val (.int (Int32.ofNat i)), .val (.int ((cs : List Int32).getD i 0)), s3] [(.int (57 : Int32)), (.int ((cs : List Int32).getD i 0))])) t → Steps p.tables e below (T0.setTop (mkF m 49 #[.val (.ref a0), .val (.int (Int32.ofNat i)), s2, s3] [])) t := by
            intro t k
            refine pre22 t ?_
            show Steps p.tables e below (T16.setTop (mkF m 90 #[.val (.ref a0), .val (.int (Int32.ofNat i)), .val (.int ((cs : List Int32).getD i 0)), s3] [(.int (48 : Int32)), (.int ((cs : List Int32).getD i 0))])) _
            refine XS.icmpNo X16.here hx rfl (hb hby d8_90) rfl (flt hc90_23).1 ?_
            refine XS.iloadN X16.here hx rfl (hb hby d8_93) rfl ?_
            refine XS.bipush X16.here hx rfl (hb hby d8_94) ?_
            exact k
          by_cases hc96_35 : (57 : Int32) < ((cs : List Int32).getD i 0)
          ·
            have pre36 : ∀ t, Steps p.tables e below (T16.setTop (mkF m 102 #[.val (.ref a0), .val (.int (Int32.ofNat i)), .val (.int ((cs : List Int32).getD i 0)), s3] [(.int (46 : Int32)), (.int ((cs : List Int32).getD i 0))])) t → Steps p.tables e below (T0.setTop (mkF m 49 #[.val (.ref a0), .val (.int (Int32.ofNat i)), s2, s3] [])) t := by
              intro t k
              refine pre34 t ?_
              show Steps p.tables e below (T16.setTop (mkF m 96 #[.val (.ref a0), .val (.int (Int32.ofNat i)), .val (.int ((cs : List Int32).getD i 0)), s3] [(.int (57 : Int32)), (.int ((cs : List Int32).getD i 0))])) _
              refine XS.icmpNo X16.here hx rfl (hb hby d8_96) rfl (tlt hc96_35).2.2.2 ?_
              refine XS.iloadN X16.here hx rfl (hb hby d8_99) rfl ?_
              refine XS.bipush X16.here hx rfl (hb hby d8_100) ?_
              exact k
            by_cases hc102_37 : ((cs : List Int32).getD i 0) = (46 : Int32)
            ·
              have pre38 : ∀ t, Steps p.tables e below (T16.setTop (mkF m 122 #[.val (.ref a0), .val (.int (Int32.ofNat i)), .val (.int ((cs : List Int32).getD i 0)), s3] [(.int (1 : Int32))])) t → Steps p.tables e below (T0.setTop (mkF m 49 #[.val (.ref a0), .val (.int (Int32.ofNat i)), s2, s3] [])) t := by
                intro t k
                refine pre36 t ?_
                show Steps p.tables e below (T16.setTop (mkF m 102 #[.val (.ref a0), .val (.int (Int32.ofNat i)), .val (.int ((cs : List Int32).getD i 0)), s3] [(.int (46 : Int32)), (.int ((cs : List Int32).getD i 0))])) _
                refine XS.icmpYes X16.here hx rfl (pc0 := 102) (pc' := 117) rfl (hb hby d8_102) rfl (teq hc102_37).1 (by decide) (by decide) ?_
                refine XS.iconst X16.here hx rfl (hb hby d8_117) ?_
                refine XS.goto X16.here hx rfl (pc0 := 118) (pc' := 122) rfl (hb hby d8_118) (by decide) (by decide) ?_
                exact k
              exact ⟨(1 : Int32), pre38, by rw [if_pos hc66_19, if_pos hc78_21, if_neg hc90_23, if_pos hc96_35, if_pos hc102_37]⟩
            ·
              have pre39 : ∀ t, Steps p.tables e below (T16.setTop (mkF m 108 #[.val (.ref a0), .val (.int (Int32.ofNat i)), .val (.int ((cs : List Int32).getD i 0)), s3] [(.int (95 : Int32)), (.int ((cs : List Int32).getD i 0))])) t → Steps p.tables e below (T0.setTop (mkF m 49 #[.val (.ref a0), .val (.int (Int32.ofNat i)), s2, s3] [])) t := by
                intro t k
                refine pre36 t ?_
                show Steps p.tables e below (T16.setTop (mkF m 102 #[.val (.ref a0), .val (.int (Int32.ofNat i)), .val (.int ((cs : List Int32).getD i 0)), s3] [(.int (46 : Int32)), (.int ((cs : List Int32).getD i 0))])) _
                refine XS.icmpNo X16.here hx rfl (hb hby d8_102) rfl (feq hc102_37).1 ?_
                refine XS.iloadN X16.here hx rfl (hb hby d8_105) rfl ?_
                refine XS.bipush X16.here hx rfl (hb hby d8_106) ?_
                exact k
              by_cases hc108_40 : ((cs : List Int32).getD i 0) = (95 : Int32)
              ·
                have pre41 : ∀ t, Steps p.tables e below (T16.setTop (mkF m 122 #[.val (.ref a0), .val (.int (Int32.ofNat i)), .val (.int ((cs : List Int32).getD i 0)), s3] [(.int (1 : Int32))])) t → Steps p.tables e below (T0.setTop (mkF m 49 #[.val (.ref a0), .val (.int (Int32.ofNat i)), s2, s3] [])) t := by
                  intro t k
                  refine pre39 t ?_
                  show Steps p.tables e below (T16.setTop (mkF m 108 #[.val (.ref a0), .val (.int (Int32.ofNat i)), .val (.int ((cs : List Int32).getD i 0)), s3] [(.int (95 : Int32)), (.int ((cs : List Int32).getD i 0))])) _
                  refine XS.icmpYes X16.here hx rfl (pc0 := 108) (pc' := 117) rfl (hb hby d8_108) rfl (teq hc108_40).1 (by decide) (by decide) ?_
                  refine XS.iconst X16.here hx rfl (hb hby d8_117) ?_
                  refine XS.goto X16.here hx rfl (pc0 := 118) (pc' := 122) rfl (hb hby d8_118) (by decide) (by decide) ?_
                  exact k
                exact ⟨(1 : Int32), pre41, by rw [if_pos hc66_19, if_pos hc78_21, if_neg hc90_23, if_pos hc96_35, if_neg hc102_37, if_pos hc108_40]⟩
              ·
                have pre42 : ∀ t, Steps p.tables e below (T16.setTop (mkF m 114 #[.val (.ref a0), .val (.int (Int32.ofNat i)), .val (.int ((cs : List Int32).getD i 0)), s3] [(.int (45 : Int32)), (.int ((cs : List Int32).getD i 0))])) t → Steps p.tables e below (T0.setTop (mkF m 49 #[.val (.ref a0), .val (.int (Int32.ofNat i)), s2, s3] [])) t := by
                  intro t k
                  refine pre39 t ?_
                  show Steps p.tables e below (T16.setTop (mkF m 108 #[.val (.ref a0), .val (.int (Int32.ofNat i)), .val (.int ((cs : List Int32).getD i 0)), s3] [(.int (95 : Int32)), (.int ((cs : List Int32).getD i 0))])) _
                  refine XS.icmpNo X16.here hx rfl (hb hby d8_108) rfl (feq hc108_40).1 ?_
                  refine XS.iloadN X16.here hx rfl (hb hby d8_111) rfl ?_
                  refine XS.bipush X16.here hx rfl (hb hby d8_112) ?_
                  exact k
                by_cases hc114_43 : ((cs : List Int32).getD i 0) = (45 : Int32)
                ·
                  have pre44 : ∀ t, Steps p.tables e below (T16.setTop (mkF m 122 #[.val (.ref a0), .val (.int (Int32.ofNat i)), .val (.int ((cs : List Int32).getD i 0)), s3] [(.int (1 : Int32))])) t → Steps p.tables e below (T0.setTop (mkF m 49 #[.val (.ref a0), .val (.int (Int32.ofNat i)), s2, s3] [])) t := by
                    intro t k
                    refine pre42 t ?_
                    show Steps p.tables e below (T16.setTop (mkF m 114 #[.val (.ref a0), .val (.int (Int32.ofNat i)), .val (.int ((cs : List Int32).getD i 0)), s3] [(.int (45 : Int32)), (.int ((cs : List Int32).getD i 0))])) _
                    refine XS.icmpNo X16.here hx rfl (hb hby d8_114) rfl (teq hc114_43).2 ?_
                    refine XS.iconst X16.here hx rfl (hb hby d8_117) ?_
                    refine XS.goto X16.here hx rfl (pc0 := 118) (pc' := 122) rfl (hb hby d8_118) (by decide) (by decide) ?_
                    exact k
                  exact ⟨(1 : Int32), pre44, by rw [if_pos hc66_19, if_pos hc78_21, if_neg hc90_23, if_pos hc96_35, if_neg hc102_37, if_neg hc108_40, if_pos hc114_43]⟩
                ·
                  have pre45 : ∀ t, Steps p.tables e below (T16.setTop (mkF m 122 #[.val (.ref a0), .val (.int (Int32.ofNat i)), .val (.int ((cs : List Int32).getD i 0)), s3] [(.int (0 : Int32))])) t → Steps p.tables e below (T0.setTop (mkF m 49 #[.val (.ref a0), .val (.int (Int32.ofNat i)), s2, s3] [])) t := by
                    intro t k
                    refine pre42 t ?_
                    show Steps p.tables e below (T16.setTop (mkF m 114 #[.val (.ref a0), .val (.int (Int32.ofNat i)), .val (.int ((cs : List Int32).getD i 0)), s3] [(.int (45 : Int32)), (.int ((cs : List Int32).getD i 0))])) _
                    refine XS.icmpYes X16.here hx rfl (pc0 := 114) (pc' := 121) rfl (hb hby d8_114) rfl (feq hc114_43).2 (by decide) (by decide) ?_
                    refine XS.iconst X16.here hx rfl (hb hby d8_121) ?_
                    exact k
                  exact ⟨(0 : Int32), pre45, by rw [if_pos hc66_19, if_pos hc78_21, if_neg hc90_23, if_pos hc96_35, if_neg hc102_37, if_neg hc108_40, if_neg hc114_43]⟩
          ·
            have pre46 : ∀ t, Steps p.tables e below (T16.setTop (mkF m 122 #[.val (.ref a0), .val (.int (Int32.ofNat i)), .val (.int ((cs : List Int32).getD i 0)), s3] [(.int (1 : Int32))])) t → Steps p.tables e below (T0.setTop (mkF m 49 #[.val (.ref a0), .val (.int (Int32.ofNat i)), s2, s3] [])) t := by
              intro t k
              refine pre34 t ?_
              show Steps p.tables e below (T16.setTop (mkF m 96 #[.val (.ref a0), .val (.int (Int32.ofNat i)), .val (.int ((cs : List Int32).getD i 0)), s3] [(.int (57 : Int32)), (.int ((cs : List Int32).getD i 0))])) _
              refine XS.icmpYes X16.here hx rfl (pc0 := 96) (pc' := 117) rfl (hb hby d8_96) rfl (flt hc96_35).2.2.2 (by decide) (by decide) ?_
              refine XS.iconst X16.here hx rfl (hb hby d8_117) ?_
              refine XS.goto X16.here hx rfl (pc0 := 118) (pc' := 122) rfl (hb hby d8_118) (by decide) (by decide) ?_
              exact k
            exact ⟨(1 : Int32), pre46, by rw [if_pos hc66_19, if_pos hc78_21, if_neg hc90_23, if_neg hc96_35]⟩
      ·
        have pre47 : ∀ t, Steps p.tables e below (T16.setTop (mkF m 84 #[.val (.ref a0), .val (.int (Int32.ofNat i)), .val (.int ((cs : List Int32).getD i 0)), s3] [(.int (90 : Int32)), (.int ((cs : List Int32).getD i 0))])) t → Steps p.tables e below (T0.setTop (mkF m 49 #[.val (.ref a0), .val (.int (Int32.ofNat i)), s2, s3] [])) t := by
          intro t k
          refine pre20 t ?_
          show Steps p.tables e below (T16.setTop (mkF m 78 #[.val (.ref a0), .val (.int (Int32.ofNat i)), .val (.int ((cs : List Int32).getD i 0)), s3] [(.int (65 : Int32)), (.int ((cs : List Int32).getD i 0))])) _
          refine XS.icmpNo X16.here hx rfl (hb hby d8_78) rfl (flt hc78_21).1 ?_
          refine XS.iloadN X16.here hx rfl (hb hby d8_81) rfl ?_
          refine XS.bipush X16.here hx rfl (hb hby d8_82) ?_
          exact k
        by_cases hc84_48 : (90 : Int32) < ((cs : List Int32).getD i 0)
        ·
          have pre49 : ∀ t, Steps p.tables e below (T16.setTop (mkF m 90 #[.val (.ref a0), .val (.int (Int32.ofNat i)), .val (.int ((cs : List Int32).getD i 0)), s3] [(.int (48 : Int32)), (.int ((cs : List Int32).getD i 0))])) t → Steps p.tables e below (T0.setTop (mkF m 49 #[.val (.ref a0), .val (.int (Int32.ofNat i)), s2, s3] [])) t := by
            intro t k
            refine pre47 t ?_
            show Steps p.tables e below (T16.setTop (mkF m 84 #[.val (.ref a0), .val (.int (Int32.ofNat i)), .val (.int ((cs : List Int32).getD i 0)), s3] [(.int (90 : Int32)), (.int ((cs : List Int32).getD i 0))])) _
            refine XS.icmpNo X16.here hx rfl (hb hby d8_84) rfl (tlt hc84_48).2.2.2 ?_
            refine XS.iloadN X16.here hx rfl (hb hby d8_87) rfl ?_
            refine XS.bipush X16.here hx rfl (hb hby d8_88) ?_
            exact k
          by_cases hc90_50 : ((cs : List Int32).getD i 0) < (48 : Int32)
          ·
            have pre51 : ∀ t, Steps p.tables e below (T16.setTop (mkF m 102 #[.val (.ref a0), .val (.int (Int32.ofNat i)), .val (.int ((cs : List Int32).getD i 0)), s3] [(.int (46 : Int32)), (.int ((cs : List Int32).getD i 0))])) t → Steps p.tables e below (T0.setTop (mkF m 49 #[.val (.ref a0), .val (.int (Int32.ofNat i)), s2, s3] [])) t := by
              intro t k
              refine pre49 t ?_
              show Steps p.tables e below (T16.setTop (mkF m 90 #[.val (.ref a0), .val (.int (Int32.ofNat i)), .val (.int ((cs : List Int32).getD i 0)), s3] [(.int (48 : Int32)), (.int ((cs : List Int32).getD i 0))])) _
              refine XS.icmpYes X16.here hx rfl (pc0 := 90) (pc' := 99) rfl (hb hby d8_90) rfl (tlt hc90_50).1 (by decide) (by decide) ?_
              refine XS.iloadN X16.here hx rfl (hb hby d8_99) rfl ?_
              refine XS.bipush X16.here hx rfl (hb hby d8_100) ?_
              exact k
            by_cases hc102_52 : ((cs : List Int32).getD i 0) = (46 : Int32)
            ·
              have pre53 : ∀ t, Steps p.tables e below (T16.setTop (mkF m 122 #[.val (.ref a0), .val (.int (Int32.ofNat i)), .val (.int ((cs : List Int32).getD i 0)), s3] [(.int (1 : Int32))])) t → Steps p.tables e below (T0.setTop (mkF m 49 #[.val (.ref a0), .val (.int (Int32.ofNat i)), s2, s3] [])) t := by
                intro t k
                refine pre51 t ?_
                show Steps p.tables e below (T16.setTop (mkF m 102 #[.val (.ref a0), .val (.int (Int32.ofNat i)), .val (.int ((cs : List Int32).getD i 0)), s3] [(.int (46 : Int32)), (.int ((cs : List Int32).getD i 0))])) _
                refine XS.icmpYes X16.here hx rfl (pc0 := 102) (pc' := 117) rfl (hb hby d8_102) rfl (teq hc102_52).1 (by decide) (by decide) ?_
                refine XS.iconst X16.here hx rfl (hb hby d8_117) ?_
                refine XS.goto X16.here hx rfl (pc0 := 118) (pc' := 122) rfl (hb hby d8_118) (by decide) (by decide) ?_
                exact k
              exact ⟨(1 : Int32), pre53, by rw [if_pos hc66_19, if_neg hc78_21, if_pos hc84_48, if_pos hc90_50, if_pos hc102_52]⟩
            ·
              have pre54 : ∀ t, Steps p.tables e below (T16.setTop (mkF m 108 #[.val (.ref a0), .val (.int (Int32.ofNat i)), .val (.int ((cs : List Int32).getD i 0)), s3] [(.int (95 : Int32)), (.int ((cs : List Int32).getD i 0))])) t → Steps p.tables e below (T0.setTop (mkF m 49 #[.val (.ref a0), .val (.int (Int32.ofNat i)), s2, s3] [])) t := by
                intro t k
                refine pre51 t ?_
                show Steps p.tables e below (T16.setTop (mkF m 102 #[.val (.ref a0), .val (.int (Int32.ofNat i)), .val (.int ((cs : List Int32).getD i 0)), s3] [(.int (46 : Int32)), (.int ((cs : List Int32).getD i 0))])) _
                refine XS.icmpNo X16.here hx rfl (hb hby d8_102) rfl (feq hc102_52).1 ?_
                refine XS.iloadN X16.here hx rfl (hb hby d8_105) rfl ?_
                refine XS.bipush X16.here hx rfl (hb hby d8_106) ?_
                exact k
              by_cases hc108_55 : ((cs : List Int32).getD i 0) = (95 : Int32)
              ·
                have pre56 : ∀ t, Steps p.tables e below (T16.setTop (mkF m 122 #[.val (.ref a0), .val (.int (Int32.ofNat i)), .val (.int ((cs : List Int32).getD i 0)), s3] [(.int (1 : Int32))])) t → Steps p.tables e below (T0.setTop (mkF m 49 #[.val (.ref a0), .val (.int (Int32.ofNat i)), s2, s3] [])) t := by
                  intro t k
                  refine pre54 t ?_
                  show Steps p.tables e below (T16.setTop (mkF m 108 #[.val (.ref a0), .val (.int (Int32.ofNat i)), .val (.int ((cs : List Int32).getD i 0)), s3] [(.int (95 : Int32)), (.int ((cs : List Int32).getD i 0))])) _
                  refine XS.icmpYes X16.here hx rfl (pc0 := 108) (pc' := 117) rfl (hb hby d8_108) rfl (teq hc108_55).1 (by decide) (by decide) ?_
                  refine XS.iconst X16.here hx rfl (hb hby d8_117) ?_
                  refine XS.goto X16.here hx rfl (pc0 := 118) (pc' := 122) rfl (hb hby d8_118) (by decide) (by decide) ?_
                  exact k
                exact ⟨(1 : Int32), pre56, by rw [if_pos hc66_19, if_neg hc78_21, if_pos hc84_48, if_pos hc90_50, if_neg hc102_52, if_pos hc108_55]⟩
              ·
                have pre57 : ∀ t, Steps p.tables e below (T16.setTop (mkF m 114 #[.val (.ref a0), .val (.int (Int32.ofNat i)), .val (.int ((cs : List Int32).getD i 0)), s3] [(.int (45 : Int32)), (.int ((cs : List Int32).getD i 0))])) t → Steps p.tables e below (T0.setTop (mkF m 49 #[.val (.ref a0), .val (.int (Int32.ofNat i)), s2, s3] [])) t := by
                  intro t k
                  refine pre54 t ?_
                  show Steps p.tables e below (T16.setTop (mkF m 108 #[.val (.ref a0), .val (.int (Int32.ofNat i)), .val (.int ((cs : List Int32).getD i 0)), s3] [(.int (95 : Int32)), (.int ((cs : List Int32).getD i 0))])) _
                  refine XS.icmpNo X16.here hx rfl (hb hby d8_108) rfl (feq hc108_55).1 ?_
                  refine XS.iloadN X16.here hx rfl (hb hby d8_111) rfl ?_
                  refine XS.bipush X16.here hx rfl (hb hby d8_112) ?_
                  exact k
                by_cases hc114_58 : ((cs : List Int32).getD i 0) = (45 : Int32)
                ·
                  have pre59 : ∀ t, Steps p.tables e below (T16.setTop (mkF m 122 #[.val (.ref a0), .val (.int (Int32.ofNat i)), .val (.int ((cs : List Int32).getD i 0)), s3] [(.int (1 : Int32))])) t → Steps p.tables e below (T0.setTop (mkF m 49 #[.val (.ref a0), .val (.int (Int32.ofNat i)), s2, s3] [])) t := by
                    intro t k
                    refine pre57 t ?_
                    show Steps p.tables e below (T16.setTop (mkF m 114 #[.val (.ref a0), .val (.int (Int32.ofNat i)), .val (.int ((cs : List Int32).getD i 0)), s3] [(.int (45 : Int32)), (.int ((cs : List Int32).getD i 0))])) _
                    refine XS.icmpNo X16.here hx rfl (hb hby d8_114) rfl (teq hc114_58).2 ?_
                    refine XS.iconst X16.here hx rfl (hb hby d8_117) ?_
                    refine XS.goto X16.here hx rfl (pc0 := 118) (pc' := 122) rfl (hb hby d8_118) (by decide) (by decide) ?_
                    exact k
                  exact ⟨(1 : Int32), pre59, by rw [if_pos hc66_19, if_neg hc78_21, if_pos hc84_48, if_pos hc90_50, if_neg hc102_52, if_neg hc108_55, if_pos hc114_58]⟩
                ·
                  have pre60 : ∀ t, Steps p.tables e below (T16.setTop (mkF m 122 #[.val (.ref a0), .val (.int (Int32.ofNat i)), .val (.int ((cs : List Int32).getD i 0)), s3] [(.int (0 : Int32))])) t → Steps p.tables e below (T0.setTop (mkF m 49 #[.val (.ref a0), .val (.int (Int32.ofNat i)), s2, s3] [])) t := by
                    intro t k
                    refine pre57 t ?_
                    show Steps p.tables e below (T16.setTop (mkF m 114 #[.val (.ref a0), .val (.int (Int32.ofNat i)), .val (.int ((cs : List Int32).getD i 0)), s3] [(.int (45 : Int32)), (.int ((cs : List Int32).getD i 0))])) _
                    refine XS.icmpYes X16.here hx rfl (pc0 := 114) (pc' := 121) rfl (hb hby d8_114) rfl (feq hc114_58).2 (by decide) (by decide) ?_
                    refine XS.iconst X16.here hx rfl (hb hby d8_121) ?_
                    exact k
                  exact ⟨(0 : Int32), pre60, by rw [if_pos hc66_19, if_neg hc78_21, if_pos hc84_48, if_pos hc90_50, if_neg hc102_52, if_neg hc108_55, if_neg hc114_58]⟩
          ·
            have pre61 : ∀ t, Steps p.tables e below (T16.setTop (mkF m 96 #[.val (.ref a0), .val (.int (Int32.ofNat i)), .val (.int ((cs : List Int32).getD i 0)), s3] [(.int (57 : Int32)), (.int ((cs : List Int32).getD i 0))])) t → Steps p.tables e below (T0.setTop (mkF m 49 #[.val (.ref a0), .val (.int (Int32.ofNat i)), s2, s3] [])) t := by
              intro t k
              refine pre49 t ?_
              show Steps p.tables e below (T16.setTop (mkF m 90 #[.val (.ref a0), .val (.int (Int32.ofNat i)), .val (.int ((cs : List Int32).getD i 0)), s3] [(.int (48 : Int32)), (.int ((cs : List Int32).getD i 0))])) _
              refine XS.icmpNo X16.here hx rfl (hb hby d8_90) rfl (flt hc90_50).1 ?_
              refine XS.iloadN X16.here hx rfl (hb hby d8_93) rfl ?_
              refine XS.bipush X16.here hx rfl (hb hby d8_94) ?_
              exact k
            by_cases hc96_62 : (57 : Int32) < ((cs : List Int32).getD i 0)
            ·
              have pre63 : ∀ t, Steps p.tables e below (T16.setTop (mkF m 102 #[.val (.ref a0), .val (.int (Int32.ofNat i)), .val (.int ((cs : List Int32).getD i 0)), s3] [(.int (46 : Int32)), (.int ((cs : List Int32).getD i 0))])) t → Steps p.tables e below (T0.setTop (mkF m 49 #[.val (.ref a0), .val (.int (Int32.ofNat i)), s2, s3] [])) t := by
                intro t k
                refine pre61 t ?_
                show Steps p.tables e below (T16.setTop (mkF m 96 #[.val (.ref a0), .val (.int (Int32.ofNat i)), .val (.int ((cs : List Int32).getD i 0)), s3] [(.int (57 : Int32)), (.int ((cs : List Int32).getD i 0))])) _
                refine XS.icmpNo X16.here hx rfl (hb hby d8_96) rfl (tlt hc96_62).2.2.2 ?_
                refine XS.iloadN X16.here hx rfl (hb hby d8_99) rfl ?_
                refine XS.bipush X16.here hx rfl (hb hby d8_100) ?_
                exact k
              by_cases hc102_64 : ((cs : List Int32).getD i 0) = (46 : Int32)
              ·
                have pre65 : ∀ t, Steps p.tables e below (T16.setTop (mkF m 122 #[.val (.ref a0), .val (.int (Int32.ofNat i)), .val (.int ((cs : List Int32).getD i 0)), s3] [(.int (1 : Int32))])) t → Steps p.tables e below (T0.setTop (mkF m 49 #[.val (.ref a0), .val (.int (Int32.ofNat i)), s2, s3] [])) t := by
                  intro t k
                  refine pre63 t ?_
                  show Steps p.tables e below (T16.setTop (mkF m 102 #[.val (.ref a0), .val (.int (Int32.ofNat i)), .val (.int ((cs : List Int32).getD i 0)), s3] [(.int (46 : Int32)), (.int ((cs : List Int32).getD i 0))])) _
                  refine XS.icmpYes X16.here hx rfl (pc0 := 102) (pc' := 117) rfl (hb hby d8_102) rfl (teq hc102_64).1 (by decide) (by decide) ?_
                  refine XS.iconst X16.here hx rfl (hb hby d8_117) ?_
                  refine XS.goto X16.here hx rfl (pc0 := 118) (pc' := 122) rfl (hb hby d8_118) (by decide) (by decide) ?_
                  exact k
                exact ⟨(1 : Int32), pre65, by rw [if_pos hc66_19, if_neg hc78_21, if_pos hc84_48, if_neg hc90_50, if_pos hc96_62, if_pos hc102_64]⟩
              ·
                have pre66 : ∀ t, Steps p.tables e below (T16.setTop (mkF m 108 #[.val (.ref a0), .val (.int (Int32.ofNat i)), .val (.int ((cs : List Int32).getD i 0)), s3] [(.int (95 : Int32)), (.int ((cs : List Int32).getD i 0))])) t → Steps p.tables e below (T0.setTop (mkF m 49 #[.val (.ref a0), .val (.int (Int32.ofNat i)), s2, s3] [])) t := by
                  intro t k
                  refine pre63 t ?_
                  show Steps p.tables e below (T16.setTop (mkF m 102 #[.val (.ref a0), .val (.int (Int32.ofNat i)), .val (.int ((cs : List Int32).getD i 0)), s3] [(.int (46 : Int32)), (.int ((cs : List Int32).getD i 0))])) _
                  refine XS.icmpNo X16.here hx rfl (hb hby d8_102) rfl (feq hc102_64).1 ?_
                  refine XS.iloadN X16.here hx rfl (hb hby d8_105) rfl ?_
                  refine XS.bipush X16.here hx rfl (hb hby d8_106) ?_
                  exact k
                by_cases hc108_67 : ((cs : List Int32).getD i 0) = (95 : Int32)
                ·
                  have pre68 : ∀ t, Steps p.tables e below (T16.setTop (mkF m 122 #[.val (.ref a0), .val (.int (Int32.ofNat i)), .val (.int ((cs : List Int32).getD i 0)), s3] [(.int (1 : Int32))])) t → Steps p.tables e below (T0.setTop (mkF m 49 #[.val (.ref a0), .val (.int (Int32.ofNat i)), s2, s3] [])) t := by
                    intro t k
                    refine pre66 t ?_
                    show Steps p.tables e below (T16.setTop (mkF m 108 #[.val (.ref a0), .val (.int (Int32.ofNat i)), .val (.int ((cs : List Int32).getD i 0)), s3] [(.int (95 : Int32)), (.int ((cs : List Int32).getD i 0))])) _
                    refine XS.icmpYes X16.here hx rfl (pc0 := 108) (pc' := 117) rfl (hb hby d8_108) rfl (teq hc108_67).1 (by decide) (by decide) ?_
                    refine XS.iconst X16.here hx rfl (hb hby d8_117) ?_
                    refine XS.goto X16.here hx rfl (pc0 := 118) (pc' := 122) rfl (hb hby d8_118) (by decide) (by decide) ?_
                    exact k
                  exact ⟨(1 : Int32), pre68, by rw [if_pos hc66_19, if_neg hc78_21, if_pos hc84_48, if_neg hc90_50, if_pos hc96_62, if_neg hc102_64, if_pos hc108_67]⟩
                ·
                  have pre69 : ∀ t, Steps p.tables e below (T16.setTop (mkF m 114 #[.val (.ref a0), .val (.int (Int32.ofNat i)), .val (.int ((cs : List Int32).getD i 0)), s3] [(.int (45 : Int32)), (.int ((cs : List Int32).getD i 0))])) t → Steps p.tables e below (T0.setTop (mkF m 49 #[.val (.ref a0), .val (.int (Int32.ofNat i)), s2, s3] [])) t := by
                    intro t k
                    refine pre66 t ?_
                    show Steps p.tables e below (T16.setTop (mkF m 108 #[.val (.ref a0), .val (.int (Int32.ofNat i)), .val (.int ((cs : List Int32).getD i 0)), s3] [(.int (95 : Int32)), (.int ((cs : List Int32).getD i 0))])) _
                    refine XS.icmpNo X16.here hx rfl (hb hby d8_108) rfl (feq hc108_67).1 ?_
                    refine XS.iloadN X16.here hx rfl (hb hby d8_111) rfl ?_
                    refine XS.bipush X16.here hx rfl (hb hby d8_112) ?_
                    exact k
                  by_cases hc114_70 : ((cs : List Int32).getD i 0) = (45 : Int32)
                  ·
                    have pre71 : ∀ t, Steps p.tables e below (T16.setTop (mkF m 122 #[.val (.ref a0), .val (.int (Int32.ofNat i)), .val (.int ((cs : List Int32).getD i 0)), s3] [(.int (1 : Int32))])) t → Steps p.tables e below (T0.setTop (mkF m 49 #[.val (.ref a0), .val (.int (Int32.ofNat i)), s2, s3] [])) t := by
                      intro t k
                      refine pre69 t ?_
                      show Steps p.tables e below (T16.setTop (mkF m 114 #[.val (.ref a0), .val (.int (Int32.ofNat i)), .val (.int ((cs : List Int32).getD i 0)), s3] [(.int (45 : Int32)), (.int ((cs : List Int32).getD i 0))])) _
                      refine XS.icmpNo X16.here hx rfl (hb hby d8_114) rfl (teq hc114_70).2 ?_
                      refine XS.iconst X16.here hx rfl (hb hby d8_117) ?_
                      refine XS.goto X16.here hx rfl (pc0 := 118) (pc' := 122) rfl (hb hby d8_118) (by decide) (by decide) ?_
                      exact k
                    exact ⟨(1 : Int32), pre71, by rw [if_pos hc66_19, if_neg hc78_21, if_pos hc84_48, if_neg hc90_50, if_pos hc96_62, if_neg hc102_64, if_neg hc108_67, if_pos hc114_70]⟩
                  ·
                    have pre72 : ∀ t, Steps p.tables e below (T16.setTop (mkF m 122 #[.val (.ref a0), .val (.int (Int32.ofNat i)), .val (.int ((cs : List Int32).getD i 0)), s3] [(.int (0 : Int32))])) t → Steps p.tables e below (T0.setTop (mkF m 49 #[.val (.ref a0), .val (.int (Int32.ofNat i)), s2, s3] [])) t := by
                      intro t k
                      refine pre69 t ?_
                      show Steps p.tables e below (T16.setTop (mkF m 114 #[.val (.ref a0), .val (.int (Int32.ofNat i)), .val (.int ((cs : List Int32).getD i 0)), s3] [(.int (45 : Int32)), (.int ((cs : List Int32).getD i 0))])) _
                      refine XS.icmpYes X16.here hx rfl (pc0 := 114) (pc' := 121) rfl (hb hby d8_114) rfl (feq hc114_70).2 (by decide) (by decide) ?_
                      refine XS.iconst X16.here hx rfl (hb hby d8_121) ?_
                      exact k
                    exact ⟨(0 : Int32), pre72, by rw [if_pos hc66_19, if_neg hc78_21, if_pos hc84_48, if_neg hc90_50, if_pos hc96_62, if_neg hc102_64, if_neg hc108_67, if_neg hc114_70]⟩
            ·
              have pre73 : ∀ t, Steps p.tables e below (T16.setTop (mkF m 122 #[.val (.ref a0), .val (.int (Int32.ofNat i)), .val (.int ((cs : List Int32).getD i 0)), s3] [(.int (1 : Int32))])) t → Steps p.tables e below (T0.setTop (mkF m 49 #[.val (.ref a0), .val (.int (Int32.ofNat i)), s2, s3] [])) t := by
                intro t k
                refine pre61 t ?_
                show Steps p.tables e below (T16.setTop (mkF m 96 #[.val (.ref a0), .val (.int (Int32.ofNat i)), .val (.int ((cs : List Int32).getD i 0)), s3] [(.int (57 : Int32)), (.int ((cs : List Int32).getD i 0))])) _
                refine XS.icmpYes X16.here hx rfl (pc0 := 96) (pc' := 117) rfl (hb hby d8_96) rfl (flt hc96_62).2.2.2 (by decide) (by decide) ?_
                refine XS.iconst X16.here hx rfl (hb hby d8_117) ?_
                refine XS.goto X16.here hx rfl (pc0 := 118) (pc' := 122) rfl (hb hby d8_118) (by decide) (by decide) ?_
                exact k
              exact ⟨(1 : Int32), pre73, by rw [if_pos hc66_19, if_neg hc78_21, if_pos hc84_48, if_neg hc90_50, if_neg hc96_62]⟩
        ·
          have pre74 : ∀ t, Steps p.tables e below (T16.setTop (mkF m 122 #[.val (.ref a0), .val (.int (Int32.ofNat i)), .val (.int ((cs : List Int32).getD i 0)), s3] [(.int (1 : Int32))])) t → Steps p.tables e below (T0.setTop (mkF m 49 #[.val (.ref a0), .val (.int (Int32.ofNat i)), s2, s3] [])) t := by
            intro t k
            refine pre47 t ?_
            show Steps p.tables e below (T16.setTop (mkF m 84 #[.val (.ref a0), .val (.int (Int32.ofNat i)), .val (.int ((cs : List Int32).getD i 0)), s3] [(.int (90 : Int32)), (.int ((cs : List Int32).getD i 0))])) _
            refine XS.icmpYes X16.here hx rfl (pc0 := 84) (pc' := 117) rfl (hb hby d8_84) rfl (flt hc84_48).2.2.2 (by decide) (by decide) ?_
            refine XS.iconst X16.here hx rfl (hb hby d8_117) ?_
            refine XS.goto X16.here hx rfl (pc0 := 118) (pc' := 122) rfl (hb hby d8_118) (by decide) (by decide) ?_
            exact k
          exact ⟨(1 : Int32), pre74, by rw [if_pos hc66_19, if_neg hc78_21, if_neg hc84_48]⟩
    ·
      have pre75 : ∀ t, Steps p.tables e below (T16.setTop (mkF m 72 #[.val (.ref a0), .val (.int (Int32.ofNat i)), .val (.int ((cs : List Int32).getD i 0)), s3] [(.int (122 : Int32)), (.int ((cs : List Int32).getD i 0))])) t → Steps p.tables e below (T0.setTop (mkF m 49 #[.val (.ref a0), .val (.int (Int32.ofNat i)), s2, s3] [])) t := by
        intro t k
        refine pre18 t ?_
        show Steps p.tables e below (T16.setTop (mkF m 66 #[.val (.ref a0), .val (.int (Int32.ofNat i)), .val (.int ((cs : List Int32).getD i 0)), s3] [(.int (97 : Int32)), (.int ((cs : List Int32).getD i 0))])) _
        refine XS.icmpNo X16.here hx rfl (hb hby d8_66) rfl (flt hc66_19).1 ?_
        refine XS.iloadN X16.here hx rfl (hb hby d8_69) rfl ?_
        refine XS.bipush X16.here hx rfl (hb hby d8_70) ?_
        exact k
      by_cases hc72_76 : (122 : Int32) < ((cs : List Int32).getD i 0)
      ·
        have pre77 : ∀ t, Steps p.tables e below (T16.setTop (mkF m 78 #[.val (.ref a0), .val (.int (Int32.ofNat i)), .val (.int ((cs : List Int32).getD i 0)), s3] [(.int (65 : Int32)), (.int ((cs : List Int32).getD i 0))])) t → Steps p.tables e below (T0.setTop (mkF m 49 #[.val (.ref a0), .val (.int (Int32.ofNat i)), s2, s3] [])) t := by
          intro t k
          refine pre75 t ?_
          show Steps p.tables e below (T16.setTop (mkF m 72 #[.val (.ref a0), .val (.int (Int32.ofNat i)), .val (.int ((cs : List Int32).getD i 0)), s3] [(.int (122 : Int32)), (.int ((cs : List Int32).getD i 0))])) _
          refine XS.icmpNo X16.here hx rfl (hb hby d8_72) rfl (tlt hc72_76).2.2.2 ?_
          refine XS.iloadN X16.here hx rfl (hb hby d8_75) rfl ?_
          refine XS.bipush X16.here hx rfl (hb hby d8_76) ?_
          exact k
        by_cases hc78_78 : ((cs : List Int32).getD i 0) < (65 : Int32)
        ·
          have pre79 : ∀ t, Steps p.tables e below (T16.setTop (mkF m 90 #[.val (.ref a0), .val (.int (Int32.ofNat i)), .val (.int ((cs : List Int32).getD i 0)), s3] [(.int (48 : Int32)), (.int ((cs : List Int32).getD i 0))])) t → Steps p.tables e below (T0.setTop (mkF m 49 #[.val (.ref a0), .val (.int (Int32.ofNat i)), s2, s3] [])) t := by
            intro t k
            refine pre77 t ?_
            show Steps p.tables e below (T16.setTop (mkF m 78 #[.val (.ref a0), .val (.int (Int32.ofNat i)), .val (.int ((cs : List Int32).getD i 0)), s3] [(.int (65 : Int32)), (.int ((cs : List Int32).getD i 0))])) _
            refine XS.icmpYes X16.here hx rfl (pc0 := 78) (pc' := 87) rfl (hb hby d8_78) rfl (tlt hc78_78).1 (by decide) (by decide) ?_
            refine XS.iloadN X16.here hx rfl (hb hby d8_87) rfl ?_
            refine XS.bipush X16.here hx rfl (hb hby d8_88) ?_
            exact k
          by_cases hc90_80 : ((cs : List Int32).getD i 0) < (48 : Int32)
          ·
            have pre81 : ∀ t, Steps p.tables e below (T16.setTop (mkF m 102 #[.val (.ref a0), .val (.int (Int32.ofNat i)), .val (.int ((cs : List Int32).getD i 0)), s3] [(.int (46 : Int32)), (.int ((cs : List Int32).getD i 0))])) t → Steps p.tables e below (T0.setTop (mkF m 49 #[.val (.ref a0), .val (.int (Int32.ofNat i)), s2, s3] [])) t := by
              intro t k
              refine pre79 t ?_
              show Steps p.tables e below (T16.setTop (mkF m 90 #[.val (.ref a0), .val (.int (Int32.ofNat i)), .val (.int ((cs : List Int32).getD i 0)), s3] [(.int (48 : Int32)), (.int ((cs : List Int32).getD i 0))])) _
              refine XS.icmpYes X16.here hx rfl (pc0 := 90) (pc' := 99) rfl (hb hby d8_90) rfl (tlt hc90_80).1 (by decide) (by decide) ?_
              refine XS.iloadN X16.here hx rfl (hb hby d8_99) rfl ?_
              refine XS.bipush X16.here hx rfl (hb hby d8_100) ?_
              exact k
            by_cases hc102_82 : ((cs : List Int32).getD i 0) = (46 : Int32)
            ·
              have pre83 : ∀ t, Steps p.tables e below (T16.setTop (mkF m 122 #[.val (.ref a0), .val (.int (Int32.ofNat i)), .val (.int ((cs : List Int32).getD i 0)), s3] [(.int (1 : Int32))])) t → Steps p.tables e below (T0.setTop (mkF m 49 #[.val (.ref a0), .val (.int (Int32.ofNat i)), s2, s3] [])) t := by
                intro t k
                refine pre81 t ?_
                show Steps p.tables e below (T16.setTop (mkF m 102 #[.val (.ref a0), .val (.int (Int32.ofNat i)), .val (.int ((cs : List Int32).getD i 0)), s3] [(.int (46 : Int32)), (.int ((cs : List Int32).getD i 0))])) _
                refine XS.icmpYes X16.here hx rfl (pc0 := 102) (pc' := 117) rfl (hb hby d8_102) rfl (teq hc102_82).1 (by decide) (by decide) ?_
                refine XS.iconst X16.here hx rfl (hb hby d8_117) ?_
                refine XS.goto X16.here hx rfl (pc0 := 118) (pc' := 122) rfl (hb hby d8_118) (by decide) (by decide) ?_
                exact k
              exact ⟨(1 : Int32), pre83, by rw [if_neg hc66_19, if_pos hc72_76, if_pos hc78_78, if_pos hc90_80, if_pos hc102_82]⟩
            ·
              have pre84 : ∀ t, Steps p.tables e below (T16.setTop (mkF m 108 #[.val (.ref a0), .val (.int (Int32.ofNat i)), .val (.int ((cs : List Int32).getD i 0)), s3] [(.int (95 : Int32)), (.int ((cs : List Int32).getD i 0))])) t → Steps p.tables e below (T0.setTop (mkF m 49 #[.val (.ref a0), .val (.int (Int32.ofNat i)), s2, s3] [])) t := by
                intro t k
                refine pre81 t ?_
                show Steps p.tables e below (T16.setTop (mkF m 102 #[.val (.ref a0), .val (.int (Int32.ofNat i)), .val (.int ((cs : List Int32).getD i 0)), s3] [(.int (46 : Int32)), (.int ((cs : List Int32).getD i 0))])) _
                refine XS.icmpNo X16.here hx rfl (hb hby d8_102) rfl (feq hc102_82).1 ?_
                refine XS.iloadN X16.here hx rfl (hb hby d8_105) rfl ?_
                refine XS.bipush X16.here hx rfl (hb hby d8_106) ?_
                exact k
              by_cases hc108_85 : ((cs : List Int32).getD i 0) = (95 : Int32)
              ·
                have pre86 : ∀ t, Steps p.tables e below (T16.setTop (mkF m 122 #[.val (.ref a0), .val (.int (Int32.ofNat i)), .val (.int ((cs : List Int32).getD i 0)), s3] [(.int (1 : Int32))])) t → Steps p.tables e below (T0.setTop (mkF m 49 #[.val (.ref a0), .val (.int (Int32.ofNat i)), s2, s3] [])) t := by
                  intro t k
                  refine pre84 t ?_
                  show Steps p.tables e below (T16.setTop (mkF m 108 #[.val (.ref a0), .val (.int (Int32.ofNat i)), .val (.int ((cs : List Int32).getD i 0)), s3] [(.int (95 : Int32)), (.int ((cs : List Int32).getD i 0))])) _
                  refine XS.icmpYes X16.here hx rfl (pc0 := 108) (pc' := 117) rfl (hb hby d8_108) rfl (teq hc108_85).1 (by decide) (by decide) ?_
                  refine XS.iconst X16.here hx rfl (hb hby d8_117) ?_
                  refine XS.goto X16.here hx rfl (pc0 := 118) (pc' := 122) rfl (hb hby d8_118) (by decide) (by decide) ?_
                  exact k
                exact ⟨(1 : Int32), pre86, by rw [if_neg hc66_19, if_pos hc72_76, if_pos hc78_78, if_pos hc90_80, if_neg hc102_82, if_pos hc108_85]⟩
              ·
                have pre87 : ∀ t, Steps p.tables e below (T16.setTop (mkF m 114 #[.val (.ref a0), .val (.int (Int32.ofNat i)), .val (.int ((cs : List Int32).getD i 0)), s3] [(.int (45 : Int32)), (.int ((cs : List Int32).getD i 0))])) t → Steps p.tables e below (T0.setTop (mkF m 49 #[.val (.ref a0), .val (.int (Int32.ofNat i)), s2, s3] [])) t := by
                  intro t k
                  refine pre84 t ?_
                  show Steps p.tables e below (T16.setTop (mkF m 108 #[.val (.ref a0), .val (.int (Int32.ofNat i)), .val (.int ((cs : List Int32).getD i 0)), s3] [(.int (95 : Int32)), (.int ((cs : List Int32).getD i 0))])) _
                  refine XS.icmpNo X16.here hx rfl (hb hby d8_108) rfl (feq hc108_85).1 ?_
                  refine XS.iloadN X16.here hx rfl (hb hby d8_111) rfl ?_
                  refine XS.bipush X16.here hx rfl (hb hby d8_112) ?_
                  exact k
                by_cases hc114_88 : ((cs : List Int32).getD i 0) = (45 : Int32)
                ·
                  have pre89 : ∀ t, Steps p.tables e below (T16.setTop (mkF m 122 #[.val (.ref a0), .val (.int (Int32.ofNat i)), .val (.int ((cs : List Int32).getD i 0)), s3] [(.int (1 : Int32))])) t → Steps p.tables e below (T0.setTop (mkF m 49 #[.val (.ref a0), .val (.int (Int32.ofNat i)), s2, s3] [])) t := by
                    intro t k
                    refine pre87 t ?_
                    show Steps p.tables e below (T16.setTop (mkF m 114 #[.val (.ref a0), .val (.int (Int32.ofNat i)), .val (.int ((cs : List Int32).getD i 0)), s3] [(.int (45 : Int32)), (.int ((cs : List Int32).getD i 0))])) _
                    refine XS.icmpNo X16.here hx rfl (hb hby d8_114) rfl (teq hc114_88).2 ?_
                    refine XS.iconst X16.here hx rfl (hb hby d8_117) ?_
                    refine XS.goto X16.here hx rfl (pc0 := 118) (pc' := 122) rfl (hb hby d8_118) (by decide) (by decide) ?_
                    exact k
                  exact ⟨(1 : Int32), pre89, by rw [if_neg hc66_19, if_pos hc72_76, if_pos hc78_78, if_pos hc90_80, if_neg hc102_82, if_neg hc108_85, if_pos hc114_88]⟩
                ·
                  have pre90 : ∀ t, Steps p.tables e below (T16.setTop (mkF m 122 #[.val (.ref a0), .val (.int (Int32.ofNat i)), .val (.int ((cs : List Int32).getD i 0)), s3] [(.int (0 : Int32))])) t → Steps p.tables e below (T0.setTop (mkF m 49 #[.val (.ref a0), .val (.int (Int32.ofNat i)), s2, s3] [])) t := by
                    intro t k
                    refine pre87 t ?_
                    show Steps p.tables e below (T16.setTop (mkF m 114 #[.val (.ref a0), .val (.int (Int32.ofNat i)), .val (.int ((cs : List Int32).getD i 0)), s3] [(.int (45 : Int32)), (.int ((cs : List Int32).getD i 0))])) _
                    refine XS.icmpYes X16.here hx rfl (pc0 := 114) (pc' := 121) rfl (hb hby d8_114) rfl (feq hc114_88).2 (by decide) (by decide) ?_
                    refine XS.iconst X16.here hx rfl (hb hby d8_121) ?_
                    exact k
                  exact ⟨(0 : Int32), pre90, by rw [if_neg hc66_19, if_pos hc72_76, if_pos hc78_78, if_pos hc90_80, if_neg hc102_82, if_neg hc108_85, if_neg hc114_88]⟩
          ·
            have pre91 : ∀ t, Steps p.tables e below (T16.setTop (mkF m 96 #[.val (.ref a0), .val (.int (Int32.ofNat i)), .val (.int ((cs : List Int32).getD i 0)), s3] [(.int (57 : Int32)), (.int ((cs : List Int32).getD i 0))])) t → Steps p.tables e below (T0.setTop (mkF m 49 #[.val (.ref a0), .val (.int (Int32.ofNat i)), s2, s3] [])) t := by
              intro t k
              refine pre79 t ?_
              show Steps p.tables e below (T16.setTop (mkF m 90 #[.val (.ref a0), .val (.int (Int32.ofNat i)), .val (.int ((cs : List Int32).getD i 0)), s3] [(.int (48 : Int32)), (.int ((cs : List Int32).getD i 0))])) _
              refine XS.icmpNo X16.here hx rfl (hb hby d8_90) rfl (flt hc90_80).1 ?_
              refine XS.iloadN X16.here hx rfl (hb hby d8_93) rfl ?_
              refine XS.bipush X16.here hx rfl (hb hby d8_94) ?_
              exact k
            by_cases hc96_92 : (57 : Int32) < ((cs : List Int32).getD i 0)
            ·
              have pre93 : ∀ t, Steps p.tables e below (T16.setTop (mkF m 102 #[.val (.ref a0), .val (.int (Int32.ofNat i)), .val (.int ((cs : List Int32).getD i 0)), s3] [(.int (46 : Int32)), (.int ((cs : List Int32).getD i 0))])) t → Steps p.tables e below (T0.setTop (mkF m 49 #[.val (.ref a0), .val (.int (Int32.ofNat i)), s2, s3] [])) t := by
                intro t k
                refine pre91 t ?_
                show Steps p.tables e below (T16.setTop (mkF m 96 #[.val (.ref a0), .val (.int (Int32.ofNat i)), .val (.int ((cs : List Int32).getD i 0)), s3] [(.int (57 : Int32)), (.int ((cs : List Int32).getD i 0))])) _
                refine XS.icmpNo X16.here hx rfl (hb hby d8_96) rfl (tlt hc96_92).2.2.2 ?_
                refine XS.iloadN X16.here hx rfl (hb hby d8_99) rfl ?_
                refine XS.bipush X16.here hx rfl (hb hby d8_100) ?_
                exact k
              by_cases hc102_94 : ((cs : List Int32).getD i 0) = (46 : Int32)
              ·
                have pre95 : ∀ t, Steps p.tables e below (T16.setTop (mkF m 122 #[.val (.ref a0), .val (.int (Int32.ofNat i)), .val (.int ((cs : List Int32).getD i 0)), s3] [(.int (1 : Int32))])) t → Steps p.tables e below (T0.setTop (mkF m 49 #[.val (.ref a0), .val (.int (Int32.ofNat i)), s2, s3] [])) t := by
                  intro t k
                  refine pre93 t ?_
                  show Steps p.tables e below (T16.setTop (mkF m 102 #[.val (.ref a0), .val (.int (Int32.ofNat i)), .val (.int ((cs : List Int32).getD i 0)), s3] [(.int (46 : Int32)), (.int ((cs : List Int32).getD i 0))])) _
                  refine XS.icmpYes X16.here hx rfl (pc0 := 102) (pc' := 117) rfl (hb hby d8_102) rfl (teq hc102_94).1 (by decide) (by decide) ?_
                  refine XS.iconst X16.here hx rfl (hb hby d8_117) ?_
                  refine XS.goto X16.here hx rfl (pc0 := 118) (pc' := 122) rfl (hb hby d8_118) (by decide) (by decide) ?_
                  exact k
                exact ⟨(1 : Int32), pre95, by rw [if_neg hc66_19, if_pos hc72_76, if_pos hc78_78, if_neg hc90_80, if_pos hc96_92, if_pos hc102_94]⟩
              ·
                have pre96 : ∀ t, Steps p.tables e below (T16.setTop (mkF m 108 #[.val (.ref a0), .val (.int (Int32.ofNat i)), .val (.int ((cs : List Int32).getD i 0)), s3] [(.int (95 : Int32)), (.int ((cs : List Int32).getD i 0))])) t → Steps p.tables e below (T0.setTop (mkF m 49 #[.val (.ref a0), .val (.int (Int32.ofNat i)), s2, s3] [])) t := by
                  intro t k
                  refine pre93 t ?_
                  show Steps p.tables e below (T16.setTop (mkF m 102 #[.val (.ref a0), .val (.int (Int32.ofNat i)), .val (.int ((cs : List Int32).getD i 0)), s3] [(.int (46 : Int32)), (.int ((cs : List Int32).getD i 0))])) _
                  refine XS.icmpNo X16.here hx rfl (hb hby d8_102) rfl (feq hc102_94).1 ?_
                  refine XS.iloadN X16.here hx rfl (hb hby d8_105) rfl ?_
                  refine XS.bipush X16.here hx rfl (hb hby d8_106) ?_
                  exact k
                by_cases hc108_97 : ((cs : List Int32).getD i 0) = (95 : Int32)
                ·
                  have pre98 : ∀ t, Steps p.tables e below (T16.setTop (mkF m 122 #[.val (.ref a0), .val (.int (Int32.ofNat i)), .val (.int ((cs : List Int32).getD i 0)), s3] [(.int (1 : Int32))])) t → Steps p.tables e below (T0.setTop (mkF m 49 #[.val (.ref a0), .val (.int (Int32.ofNat i)), s2, s3] [])) t := by
                    intro t k
                    refine pre96 t ?_
                    show Steps p.tables e below (T16.setTop (mkF m 108 #[.val (.ref a0), .val (.int (Int32.ofNat i)), .val (.int ((cs : List Int32).getD i 0)), s3] [(.int (95 : Int32)), (.int ((cs : List Int32).getD i 0))])) _
                    refine XS.icmpYes X16.here hx rfl (pc0 := 108) (pc' := 117) rfl (hb hby d8_108) rfl (teq hc108_97).1 (by decide) (by decide) ?_
                    refine XS.iconst X16.here hx rfl (hb hby d8_117) ?_
                    refine XS.goto X16.here hx rfl (pc0 := 118) (pc' := 122) rfl (hb hby d8_118) (by decide) (by decide) ?_
                    exact k
                  exact ⟨(1 : Int32), pre98, by rw [if_neg hc66_19, if_pos hc72_76, if_pos hc78_78, if_neg hc90_80, if_pos hc96_92, if_neg hc102_94, if_pos hc108_97]⟩
                ·
                  have pre99 : ∀ t, Steps p.tables e below (T16.setTop (mkF m 114 #[.val (.ref a0), .val (.int (Int32.ofNat i)), .val (.int ((cs : List Int32).getD i 0)), s3] [(.int (45 : Int32)), (.int ((cs : List Int32).getD i 0))])) t → Steps p.tables e below (T0.setTop (mkF m 49 #[.val (.ref a0), .val (.int (Int32.ofNat i)), s2, s3] [])) t := by
                    intro t k
                    refine pre96 t ?_
                    show Steps p.tables e below (T16.setTop (mkF m 108 #[.val (.ref a0), .val (.int (Int32.ofNat i)), .val (.int ((cs : List Int32).getD i 0)), s3] [(.int (95 : Int32)), (.int ((cs : List Int32).getD i 0))])) _
                    refine XS.icmpNo X16.here hx rfl (hb hby d8_108) rfl (feq hc108_97).1 ?_
                    refine XS.iloadN X16.here hx rfl (hb hby d8_111) rfl ?_
                    refine XS.bipush X16.here hx rfl (hb hby d8_112) ?_
                    exact k
                  by_cases hc114_100 : ((cs : List Int32).getD i 0) = (45 : Int32)
                  ·
                    have pre101 : ∀ t, Steps p.tables e below (T16.setTop (mkF m 122 #[.val (.ref a0), .val (.int (Int32.ofNat i)), .val (.int ((cs : List Int32).getD i 0)), s3] [(.int (1 : Int32))])) t → Steps p.tables e below (T0.setTop (mkF m 49 #[.val (.ref a0), .val (.int (Int32.ofNat i)), s2, s3] [])) t := by
                      intro t k
                      refine pre99 t ?_
                      show Steps p.tables e below (T16.setTop (mkF m 114 #[.val (.ref a0), .val (.int (Int32.ofNat i)), .val (.int ((cs : List Int32).getD i 0)), s3] [(.int (45 : Int32)), (.int ((cs : List Int32).getD i 0))])) _
                      refine XS.icmpNo X16.here hx rfl (hb hby d8_114) rfl (teq hc114_100).2 ?_
                      refine XS.iconst X16.here hx rfl (hb hby d8_117) ?_
                      refine XS.goto X16.here hx rfl (pc0 := 118) (pc' := 122) rfl (hb hby d8_118) (by decide) (by decide) ?_
                      exact k
                    exact ⟨(1 : Int32), pre101, by rw [if_neg hc66_19, if_pos hc72_76, if_pos hc78_78, if_neg hc90_80, if_pos hc96_92, if_neg hc102_94, if_neg hc108_97, if_pos hc114_100]⟩
                  ·
                    have pre102 : ∀ t, Steps p.tables e below (T16.setTop (mkF m 122 #[.val (.ref a0), .val (.int (Int32.ofNat i)), .val (.int ((cs : List Int32).getD i 0)), s3] [(.int (0 : Int32))])) t → Steps p.tables e below (T0.setTop (mkF m 49 #[.val (.ref a0), .val (.int (Int32.ofNat i)), s2, s3] [])) t := by
                      intro t k
                      refine pre99 t ?_
                      show Steps p.tables e below (T16.setTop (mkF m 114 #[.val (.ref a0), .val (.int (Int32.ofNat i)), .val (.int ((cs : List Int32).getD i 0)), s3] [(.int (45 : Int32)), (.int ((cs : List Int32).getD i 0))])) _
                      refine XS.icmpYes X16.here hx rfl (pc0 := 114) (pc' := 121) rfl (hb hby d8_114) rfl (feq hc114_100).2 (by decide) (by decide) ?_
                      refine XS.iconst X16.here hx rfl (hb hby d8_121) ?_
                      exact k
                    exact ⟨(0 : Int32), pre102, by rw [if_neg hc66_19, if_pos hc72_76, if_pos hc78_78, if_neg hc90_80, if_pos hc96_92, if_neg hc102_94, if_neg hc108_97, if_neg hc114_100]⟩
            ·
              have pre103 : ∀ t, Steps p.tables e below (T16.setTop (mkF m 122 #[.val (.ref a0), .val (.int (Int32.ofNat i)), .val (.int ((cs : List Int32).getD i 0)), s3] [(.int (1 : Int32))])) t → Steps p.tables e below (T0.setTop (mkF m 49 #[.val (.ref a0), .val (.int (Int32.ofNat i)), s2, s3] [])) t := by
                intro t k
                refine pre91 t ?_
                show Steps p.tables e below (T16.setTop (mkF m 96 #[.val (.ref a0), .val (.int (Int32.ofNat i)), .val (.int ((cs : List Int32).getD i 0)), s3] [(.int (57 : Int32)), (.int ((cs : List Int32).getD i 0))])) _
                refine XS.icmpYes X16.here hx rfl (pc0 := 96) (pc' := 117) rfl (hb hby d8_96) rfl (flt hc96_92).2.2.2 (by decide) (by decide) ?_
                refine XS.iconst X16.here hx rfl (hb hby d8_117) ?_
                refine XS.goto X16.here hx rfl (pc0 := 118) (pc' := 122) rfl (hb hby d8_118) (by decide) (by decide) ?_
                exact k
              exact ⟨(1 : Int32), pre103, by rw [if_neg hc66_19, if_pos hc72_76, if_pos hc78_78, if_neg hc90_80, if_neg hc96_92]⟩
        ·
          have pre104 : ∀ t, Steps p.tables e below (T16.setTop (mkF m 84 #[.val (.ref a0), .val (.int (Int32.ofNat i)), .val (.int ((cs : List Int32).getD i 0)), s3] [(.int (90 : Int32)), (.int ((cs : List Int32).getD i 0))])) t → Steps p.tables e below (T0.setTop (mkF m 49 #[.val (.ref a0), .val (.int (Int32.ofNat i)), s2, s3] [])) t := by
            intro t k
            refine pre77 t ?_
            show Steps p.tables e below (T16.setTop (mkF m 78 #[.val (.ref a0), .val (.int (Int32.ofNat i)), .val (.int ((cs : List Int32).getD i 0)), s3] [(.int (65 : Int32)), (.int ((cs : List Int32).getD i 0))])) _
            refine XS.icmpNo X16.here hx rfl (hb hby d8_78) rfl (flt hc78_78).1 ?_
            refine XS.iloadN X16.here hx rfl (hb hby d8_81) rfl ?_
            refine XS.bipush X16.here hx rfl (hb hby d8_82) ?_
            exact k
          by_cases hc84_105 : (90 : Int32) < ((cs : List Int32).getD i 0)
          ·
            have pre106 : ∀ t, Steps p.tables e below (T16.setTop (mkF m 90 #[.val (.ref a0), .val (.int (Int32.ofNat i)), .val (.int ((cs : List Int32).getD i 0)), s3] [(.int (48 : Int32)), (.int ((cs : List Int32).getD i 0))])) t → Steps p.tables e below (T0.setTop (mkF m 49 #[.val (.ref a0), .val (.int (Int32.ofNat i)), s2, s3] [])) t := by
              intro t k
              refine pre104 t ?_
              show Steps p.tables e below (T16.setTop (mkF m 84 #[.val (.ref a0), .val (.int (Int32.ofNat i)), .val (.int ((cs : List Int32).getD i 0)), s3] [(.int (90 : Int32)), (.int ((cs : List Int32).getD i 0))])) _
              refine XS.icmpNo X16.here hx rfl (hb hby d8_84) rfl (tlt hc84_105).2.2.2 ?_
              refine XS.iloadN X16.here hx rfl (hb hby d8_87) rfl ?_
              refine XS.bipush X16.here hx rfl (hb hby d8_88) ?_
              exact k
            by_cases hc90_107 : ((cs : List Int32).getD i 0) < (48 : Int32)
            ·
              have pre108 : ∀ t, Steps p.tables e below (T16.setTop (mkF m 102 #[.val (.ref a0), .val (.int (Int32.ofNat i)), .val (.int ((cs : List Int32).getD i 0)), s3] [(.int (46 : Int32)), (.int ((cs : List Int32).getD i 0))])) t → Steps p.tables e below (T0.setTop (mkF m 49 #[.val (.ref a0), .val (.int (Int32.ofNat i)), s2, s3] [])) t := by
                intro t k
                refine pre106 t ?_
                show Steps p.tables e below (T16.setTop (mkF m 90 #[.val (.ref a0), .val (.int (Int32.ofNat i)), .val (.int ((cs : List Int32).getD i 0)), s3] [(.int (48 : Int32)), (.int ((cs : List Int32).getD i 0))])) _
                refine XS.icmpYes X16.here hx rfl (pc0 := 90) (pc' := 99) rfl (hb hby d8_90) rfl (tlt hc90_107).1 (by decide) (by decide) ?_
                refine XS.iloadN X16.here hx rfl (hb hby d8_99) rfl ?_
                refine XS.bipush X16.here hx rfl (hb hby d8_100) ?_
                exact k
              by_cases hc102_109 : ((cs : List Int32).getD i 0) = (46 : Int32)
              ·
                have pre110 : ∀ t, Steps p.tables e below (T16.setTop (mkF m 122 #[.val (.ref a0), .val (.int (Int32.ofNat i)), .val (.int ((cs : List Int32).getD i 0)), s3] [(.int (1 : Int32))])) t → Steps p.tables e below (T0.setTop (mkF m 49 #[.val (.ref a0), .val (.int (Int32.ofNat i)), s2, s3] [])) t := by
                  intro t k
                  refine pre108 t ?_
                  show Steps p.tables e below (T16.setTop (mkF m 102 #[.val (.ref a0), .val (.int (Int32.ofNat i)), .val (.int ((cs : List Int32).getD i 0)), s3] [(.int (46 : Int32)), (.int ((cs : List Int32).getD i 0))])) _
                  refine XS.icmpYes X16.here hx rfl (pc0 := 102) (pc' := 117) rfl (hb hby d8_102) rfl (teq hc102_109).1 (by decide) (by decide) ?_
                  refine XS.iconst X16.here hx rfl (hb hby d8_117) ?_
                  refine XS.goto X16.here hx rfl (pc0 := 118) (pc' := 122) rfl (hb hby d8_118) (by decide) (by decide) ?_
                  exact k
                exact ⟨(1 : Int32), pre110, by rw [if_neg hc66_19, if_pos hc72_76, if_neg hc78_78, if_pos hc84_105, if_pos hc90_107, if_pos hc102_109]⟩
              ·
                have pre111 : ∀ t, Steps p.tables e below (T16.setTop (mkF m 108 #[.val (.ref a0), .val (.int (Int32.ofNat i)), .val (.int ((cs : List Int32).getD i 0)), s3] [(.int (95 : Int32)), (.int ((cs : List Int32).getD i 0))])) t → Steps p.tables e below (T0.setTop (mkF m 49 #[.val (.ref a0), .val (.int (Int32.ofNat i)), s2, s3] [])) t := by
                  intro t k
                  refine pre108 t ?_
                  show Steps p.tables e below (T16.setTop (mkF m 102 #[.val (.ref a0), .val (.int (Int32.ofNat i)), .val (.int ((cs : List Int32).getD i 0)), s3] [(.int (46 : Int32)), (.int ((cs : List Int32).getD i 0))])) _
                  refine XS.icmpNo X16.here hx rfl (hb hby d8_102) rfl (feq hc102_109).1 ?_
                  refine XS.iloadN X16.here hx rfl (hb hby d8_105) rfl ?_
                  refine XS.bipush X16.here hx rfl (hb hby d8_106) ?_
                  exact k
                by_cases hc108_112 : ((cs : List Int32).getD i 0) = (95 : Int32)
                ·
                  have pre113 : ∀ t, Steps p.tables e below (T16.setTop (mkF m 122 #[.val (.ref a0), .val (.int (Int32.ofNat i)), .val (.int ((cs : List Int32).getD i 0)), s3] [(.int (1 : Int32))])) t → Steps p.tables e below (T0.setTop (mkF m 49 #[.val (.ref a0), .val (.int (Int32.ofNat i)), s2, s3] [])) t := by
                    intro t k
                    refine pre111 t ?_
                    show Steps p.tables e below (T16.setTop (mkF m 108 #[.val (.ref a0), .val (.int (Int32.ofNat i)), .val (.int ((cs : List Int32).getD i 0)), s3] [(.int (95 : Int32)), (.int ((cs : List Int32).getD i 0))])) _
                    refine XS.icmpYes X16.here hx rfl (pc0 := 108) (pc' := 117) rfl (hb hby d8_108) rfl (teq hc108_112).1 (by decide) (by decide) ?_
                    refine XS.iconst X16.here hx rfl (hb hby d8_117) ?_
                    refine XS.goto X16.here hx rfl (pc0 := 118) (pc' := 122) rfl (hb hby d8_118) (by decide) (by decide) ?_
                    exact k
                  exact ⟨(1 : Int32), pre113, by rw [if_neg hc66_19, if_pos hc72_76, if_neg hc78_78, if_pos hc84_105, if_pos hc90_107, if_neg hc102_109, if_pos hc108_112]⟩
                ·
                  have pre114 : ∀ t, Steps p.tables e below (T16.setTop (mkF m 114 #[.val (.ref a0), .val (.int (Int32.ofNat i)), .val (.int ((cs : List Int32).getD i 0)), s3] [(.int (45 : Int32)), (.int ((cs : List Int32).getD i 0))])) t → Steps p.tables e below (T0.setTop (mkF m 49 #[.val (.ref a0), .val (.int (Int32.ofNat i)), s2, s3] [])) t := by
                    intro t k
                    refine pre111 t ?_
                    show Steps p.tables e below (T16.setTop (mkF m 108 #[.val (.ref a0), .val (.int (Int32.ofNat i)), .val (.int ((cs : List Int32).getD i 0)), s3] [(.int (95 : Int32)), (.int ((cs : List Int32).getD i 0))])) _
                    refine XS.icmpNo X16.here hx rfl (hb hby d8_108) rfl (feq hc108_112).1 ?_
                    refine XS.iloadN X16.here hx rfl (hb hby d8_111) rfl ?_
                    refine XS.bipush X16.here hx rfl (hb hby d8_112) ?_
                    exact k
                  by_cases hc114_115 : ((cs : List Int32).getD i 0) = (45 : Int32)
                  ·
                    have pre116 : ∀ t, Steps p.tables e below (T16.setTop (mkF m 122 #[.val (.ref a0), .val (.int (Int32.ofNat i)), .val (.int ((cs : List Int32).getD i 0)), s3] [(.int (1 : Int32))])) t → Steps p.tables e below (T0.setTop (mkF m 49 #[.val (.ref a0), .val (.int (Int32.ofNat i)), s2, s3] [])) t := by
                      intro t k
                      refine pre114 t ?_
                      show Steps p.tables e below (T16.setTop (mkF m 114 #[.val (.ref a0), .val (.int (Int32.ofNat i)), .val (.int ((cs : List Int32).getD i 0)), s3] [(.int (45 : Int32)), (.int ((cs : List Int32).getD i 0))])) _
                      refine XS.icmpNo X16.here hx rfl (hb hby d8_114) rfl (teq hc114_115).2 ?_
                      refine XS.iconst X16.here hx rfl (hb hby d8_117) ?_
                      refine XS.goto X16.here hx rfl (pc0 := 118) (pc' := 122) rfl (hb hby d8_118) (by decide) (by decide) ?_
                      exact k
                    exact ⟨(1 : Int32), pre116, by rw [if_neg hc66_19, if_pos hc72_76, if_neg hc78_78, if_pos hc84_105, if_pos hc90_107, if_neg hc102_109, if_neg hc108_112, if_pos hc114_115]⟩
                  ·
                    have pre117 : ∀ t, Steps p.tables e below (T16.setTop (mkF m 122 #[.val (.ref a0), .val (.int (Int32.ofNat i)), .val (.int ((cs : List Int32).getD i 0)), s3] [(.int (0 : Int32))])) t → Steps p.tables e below (T0.setTop (mkF m 49 #[.val (.ref a0), .val (.int (Int32.ofNat i)), s2, s3] [])) t := by
                      intro t k
                      refine pre114 t ?_
                      show Steps p.tables e below (T16.setTop (mkF m 114 #[.val (.ref a0), .val (.int (Int32.ofNat i)), .val (.int ((cs : List Int32).getD i 0)), s3] [(.int (45 : Int32)), (.int ((cs : List Int32).getD i 0))])) _
                      refine XS.icmpYes X16.here hx rfl (pc0 := 114) (pc' := 121) rfl (hb hby d8_114) rfl (feq hc114_115).2 (by decide) (by decide) ?_
                      refine XS.iconst X16.here hx rfl (hb hby d8_121) ?_
                      exact k
                    exact ⟨(0 : Int32), pre117, by rw [if_neg hc66_19, if_pos hc72_76, if_neg hc78_78, if_pos hc84_105, if_pos hc90_107, if_neg hc102_109, if_neg hc108_112, if_neg hc114_115]⟩
            ·
              have pre118 : ∀ t, Steps p.tables e below (T16.setTop (mkF m 96 #[.val (.ref a0), .val (.int (Int32.ofNat i)), .val (.int ((cs : List Int32).getD i 0)), s3] [(.int (57 : Int32)), (.int ((cs : List Int32).getD i 0))])) t → Steps p.tables e below (T0.setTop (mkF m 49 #[.val (.ref a0), .val (.int (Int32.ofNat i)), s2, s3] [])) t := by
                intro t k
                refine pre106 t ?_
                show Steps p.tables e below (T16.setTop (mkF m 90 #[.val (.ref a0), .val (.int (Int32.ofNat i)), .val (.int ((cs : List Int32).getD i 0)), s3] [(.int (48 : Int32)), (.int ((cs : List Int32).getD i 0))])) _
                refine XS.icmpNo X16.here hx rfl (hb hby d8_90) rfl (flt hc90_107).1 ?_
                refine XS.iloadN X16.here hx rfl (hb hby d8_93) rfl ?_
                refine XS.bipush X16.here hx rfl (hb hby d8_94) ?_
                exact k
              by_cases hc96_119 : (57 : Int32) < ((cs : List Int32).getD i 0)
              ·
                have pre120 : ∀ t, Steps p.tables e below (T16.setTop (mkF m 102 #[.val (.ref a0), .val (.int (Int32.ofNat i)), .val (.int ((cs : List Int32).getD i 0)), s3] [(.int (46 : Int32)), (.int ((cs : List Int32).getD i 0))])) t → Steps p.tables e below (T0.setTop (mkF m 49 #[.val (.ref a0), .val (.int (Int32.ofNat i)), s2, s3] [])) t := by
                  intro t k
                  refine pre118 t ?_
                  show Steps p.tables e below (T16.setTop (mkF m 96 #[.val (.ref a0), .val (.int (Int32.ofNat i)), .val (.int ((cs : List Int32).getD i 0)), s3] [(.int (57 : Int32)), (.int ((cs : List Int32).getD i 0))])) _
                  refine XS.icmpNo X16.here hx rfl (hb hby d8_96) rfl (tlt hc96_119).2.2.2 ?_
                  refine XS.iloadN X16.here hx rfl (hb hby d8_99) rfl ?_
                  refine XS.bipush X16.here hx rfl (hb hby d8_100) ?_
                  exact k
                by_cases hc102_121 : ((cs : List Int32).getD i 0) = (46 : Int32)
                ·
                  have pre122 : ∀ t, Steps p.tables e below (T16.setTop (mkF m 122 #[.val (.ref a0), .val (.int (Int32.ofNat i)), .val (.int ((cs : List Int32).getD i 0)), s3] [(.int (1 : Int32))])) t → Steps p.tables e below (T0.setTop (mkF m 49 #[.val (.ref a0), .val (.int (Int32.ofNat i)), s2, s3] [])) t := by
                    intro t k
                    refine pre120 t ?_
                    show Steps p.tables e below (T16.setTop (mkF m 102 #[.val (.ref a0), .val (.int (Int32.ofNat i)), .val (.int ((cs : List Int32).getD i 0)), s3] [(.int (46 : Int32)), (.int ((cs : List Int32).getD i 0))])) _
                    refine XS.icmpYes X16.here hx rfl (pc0 := 102) (pc' := 117) rfl (hb hby d8_102) rfl (teq hc102_121).1 (by decide) (by decide) ?_
                    refine XS.iconst X16.here hx rfl (hb hby d8_117) ?_
                    refine XS.goto X16.here hx rfl (pc0 := 118) (pc' := 122) rfl (hb hby d8_118) (by decide) (by decide) ?_
                    exact k
                  exact ⟨(1 : Int32), pre122, by rw [if_neg hc66_19, if_pos hc72_76, if_neg hc78_78, if_pos hc84_105, if_neg hc90_107, if_pos hc96_119, if_pos hc102_121]⟩
                ·
                  have pre123 : ∀ t, Steps p.tables e below (T16.setTop (mkF m 108 #[.val (.ref a0), .val (.int (Int32.ofNat i)), .val (.int ((cs : List Int32).getD i 0)), s3] [(.int (95 : Int32)), (.int ((cs : List Int32).getD i 0))])) t → Steps p.tables e below (T0.setTop (mkF m 49 #[.val (.ref a0), .val (.int (Int32.ofNat i)), s2, s3] [])) t := by
                    intro t k
                    refine pre120 t ?_
                    show Steps p.tables e below (T16.setTop (mkF m 102 #[.val (.ref a0), .val (.int (Int32.ofNat i)), .val (.int ((cs : List Int32).getD i 0)), s3] [(.int (46 : Int32)), (.int ((cs : List Int32).getD i 0))])) _
                    refine XS.icmpNo X16.here hx rfl (hb hby d8_102) rfl (feq hc102_121).1 ?_
                    refine XS.iloadN X16.here hx rfl (hb hby d8_105) rfl ?_
                    refine XS.bipush X16.here hx rfl (hb hby d8_106) ?_
                    exact k
                  by_cases hc108_124 : ((cs : List Int32).getD i 0) = (95 : Int32)
                  ·
                    have pre125 : ∀ t, Steps p.tables e below (T16.setTop (mkF m 122 #[.val (.ref a0), .val (.int (Int32.ofNat i)), .val (.int ((cs : List Int32).getD i 0)), s3] [(.int (1 : Int32))])) t → Steps p.tables e below (T0.setTop (mkF m 49 #[.val (.ref a0), .val (.int (Int32.ofNat i)), s2, s3] [])) t := by
                      intro t k
                      refine pre123 t ?_
                      show Steps p.tables e below (T16.setTop (mkF m 108 #[.val (.ref a0), .val (.int (Int32.ofNat i)), .val (.int ((cs : List Int32).getD i 0)), s3] [(.int (95 : Int32)), (.int ((cs : List Int32).getD i 0))])) _
                      refine XS.icmpYes X16.here hx rfl (pc0 := 108) (pc' := 117) rfl (hb hby d8_108) rfl (teq hc108_124).1 (by decide) (by decide) ?_
                      refine XS.iconst X16.here hx rfl (hb hby d8_117) ?_
                      refine XS.goto X16.here hx rfl (pc0 := 118) (pc' := 122) rfl (hb hby d8_118) (by decide) (by decide) ?_
                      exact k
                    exact ⟨(1 : Int32), pre125, by rw [if_neg hc66_19, if_pos hc72_76, if_neg hc78_78, if_pos hc84_105, if_neg hc90_107, if_pos hc96_119, if_neg hc102_121, if_pos hc108_124]⟩
                  ·
                    have pre126 : ∀ t, Steps p.tables e below (T16.setTop (mkF m 114 #[.val (.ref a0), .val (.int (Int32.ofNat i)), .val (.int ((cs : List Int32).getD i 0)), s3] [(.int (45 : Int32)), (.int ((cs : List Int32).getD i 0))])) t → Steps p.tables e below (T0.setTop (mkF m 49 #[.val (.ref a0), .val (.int (Int32.ofNat i)), s2, s3] [])) t := by
                      intro t k
                      refine pre123 t ?_
                      show Steps p.tables e below (T16.setTop (mkF m 108 #[.val (.ref a0), .val (.int (Int32.ofNat i)), .val (.int ((cs : List Int32).getD i 0)), s3] [(.int (95 : Int32)), (.int ((cs : List Int32).getD i 0))])) _
                      refine XS.icmpNo X16.here hx rfl (hb hby d8_108) rfl (feq hc108_124).1 ?_
                      refine XS.iloadN X16.here hx rfl (hb hby d8_111) rfl ?_
                      refine XS.bipush X16.here hx rfl (hb hby d8_112) ?_
                      exact k
                    by_cases hc114_127 : ((cs : List Int32).getD i 0) = (45 : Int32)
                    ·
                      have pre128 : ∀ t, Steps p.tables e below (T16.setTop (mkF m 122 #[.val (.ref a0), .val (.int (Int32.ofNat i)), .val (.int ((cs : List Int32).getD i 0)), s3] [(.int (1 : Int32))])) t → Steps p.tables e below (T0.setTop (mkF m 49 #[.val (.ref a0), .val (.int (Int32.ofNat i)), s2, s3] [])) t := by
                        intro t k
                        refine pre126 t ?_
                        show Steps p.tables e below (T16.setTop (mkF m 114 #[.val (.ref a0), .val (.int (Int32.ofNat i)), .val (.int ((cs : List Int32).getD i 0)), s3] [(.int (45 : Int32)), (.int ((cs : List Int32).getD i 0))])) _
                        refine XS.icmpNo X16.here hx rfl (hb hby d8_114) rfl (teq hc114_127).2 ?_
                        refine XS.iconst X16.here hx rfl (hb hby d8_117) ?_
                        refine XS.goto X16.here hx rfl (pc0 := 118) (pc' := 122) rfl (hb hby d8_118) (by decide) (by decide) ?_
                        exact k
                      exact ⟨(1 : Int32), pre128, by rw [if_neg hc66_19, if_pos hc72_76, if_neg hc78_78, if_pos hc84_105, if_neg hc90_107, if_pos hc96_119, if_neg hc102_121, if_neg hc108_124, if_pos hc114_127]⟩
                    ·
                      have pre129 : ∀ t, Steps p.tables e below (T16.setTop (mkF m 122 #[.val (.ref a0), .val (.int (Int32.ofNat i)), .val (.int ((cs : List Int32).getD i 0)), s3] [(.int (0 : Int32))])) t → Steps p.tables e below (T0.setTop (mkF m 49 #[.val (.ref a0), .val (.int (Int32.ofNat i)), s2, s3] [])) t := by
                        intro t k
                        refine pre126 t ?_
                        show Steps p.tables e below (T16.setTop (mkF m 114 #[.val (.ref a0), .val (.int (Int32.ofNat i)), .val (.int ((cs : List Int32).getD i 0)), s3] [(.int (45 : Int32)), (.int ((cs : List Int32).getD i 0))])) _
                        refine XS.icmpYes X16.here hx rfl (pc0 := 114) (pc' := 121) rfl (hb hby d8_114) rfl (feq hc114_127).2 (by decide) (by decide) ?_
                        refine XS.iconst X16.here hx rfl (hb hby d8_121) ?_
                        exact k
                      exact ⟨(0 : Int32), pre129, by rw [if_neg hc66_19, if_pos hc72_76, if_neg hc78_78, if_pos hc84_105, if_neg hc90_107, if_pos hc96_119, if_neg hc102_121, if_neg hc108_124, if_neg hc114_127]⟩
              ·
                have pre130 : ∀ t, Steps p.tables e below (T16.setTop (mkF m 122 #[.val (.ref a0), .val (.int (Int32.ofNat i)), .val (.int ((cs : List Int32).getD i 0)), s3] [(.int (1 : Int32))])) t → Steps p.tables e below (T0.setTop (mkF m 49 #[.val (.ref a0), .val (.int (Int32.ofNat i)), s2, s3] [])) t := by
                  intro t k
                  refine pre118 t ?_
                  show Steps p.tables e below (T16.setTop (mkF m 96 #[.val (.ref a0), .val (.int (Int32.ofNat i)), .val (.int ((cs : List Int32).getD i 0)), s3] [(.int (57 : Int32)), (.int ((cs : List Int32).getD i 0))])) _
                  refine XS.icmpYes X16.here hx rfl (pc0 := 96) (pc' := 117) rfl (hb hby d8_96) rfl (flt hc96_119).2.2.2 (by decide) (by decide) ?_
                  refine XS.iconst X16.here hx rfl (hb hby d8_117) ?_
                  refine XS.goto X16.here hx rfl (pc0 := 118) (pc' := 122) rfl (hb hby d8_118) (by decide) (by decide) ?_
                  exact k
                exact ⟨(1 : Int32), pre130, by rw [if_neg hc66_19, if_pos hc72_76, if_neg hc78_78, if_pos hc84_105, if_neg hc90_107, if_neg hc96_119]⟩
          ·
            have pre131 : ∀ t, Steps p.tables e below (T16.setTop (mkF m 122 #[.val (.ref a0), .val (.int (Int32.ofNat i)), .val (.int ((cs : List Int32).getD i 0)), s3] [(.int (1 : Int32))])) t → Steps p.tables e below (T0.setTop (mkF m 49 #[.val (.ref a0), .val (.int (Int32.ofNat i)), s2, s3] [])) t := by
              intro t k
              refine pre104 t ?_
              show Steps p.tables e below (T16.setTop (mkF m 84 #[.val (.ref a0), .val (.int (Int32.ofNat i)), .val (.int ((cs : List Int32).getD i 0)), s3] [(.int (90 : Int32)), (.int ((cs : List Int32).getD i 0))])) _
              refine XS.icmpYes X16.here hx rfl (pc0 := 84) (pc' := 117) rfl (hb hby d8_84) rfl (flt hc84_105).2.2.2 (by decide) (by decide) ?_
              refine XS.iconst X16.here hx rfl (hb hby d8_117) ?_
              refine XS.goto X16.here hx rfl (pc0 := 118) (pc' := 122) rfl (hb hby d8_118) (by decide) (by decide) ?_
              exact k
            exact ⟨(1 : Int32), pre131, by rw [if_neg hc66_19, if_pos hc72_76, if_neg hc78_78, if_neg hc84_105]⟩
      ·
        have pre132 : ∀ t, Steps p.tables e below (T16.setTop (mkF m 122 #[.val (.ref a0), .val (.int (Int32.ofNat i)), .val (.int ((cs : List Int32).getD i 0)), s3] [(.int (1 : Int32))])) t → Steps p.tables e below (T0.setTop (mkF m 49 #[.val (.ref a0), .val (.int (Int32.ofNat i)), s2, s3] [])) t := by
          intro t k
          refine pre75 t ?_
          show Steps p.tables e below (T16.setTop (mkF m 72 #[.val (.ref a0), .val (.int (Int32.ofNat i)), .val (.int ((cs : List Int32).getD i 0)), s3] [(.int (122 : Int32)), (.int ((cs : List Int32).getD i 0))])) _
          refine XS.icmpYes X16.here hx rfl (pc0 := 72) (pc' := 117) rfl (hb hby d8_72) rfl (flt hc72_76).2.2.2 (by decide) (by decide) ?_
          refine XS.iconst X16.here hx rfl (hb hby d8_117) ?_
          refine XS.goto X16.here hx rfl (pc0 := 118) (pc' := 122) rfl (hb hby d8_118) (by decide) (by decide) ?_
          exact k
        exact ⟨(1 : Int32), pre132, by rw [if_neg hc66_19, if_neg hc72_76]⟩
  have pre135 : ∀ t, Steps p.tables e below (T16.setTop (mkF m 124 #[.val (.ref a0), .val (.int (Int32.ofNat i)), .val (.int ((cs : List Int32).getD i 0)), .val (.int v133)] [(.int v133)])) t → Steps p.tables e below (T0.setTop (mkF m 49 #[.val (.ref a0), .val (.int (Int32.ofNat i)), s2, s3] [])) t := by
    intro t k
    refine pre134 t ?_
    show Steps p.tables e below (T16.setTop (mkF m 122 #[.val (.ref a0), .val (.int (Int32.ofNat i)), .val (.int ((cs : List Int32).getD i 0)), s3] [(.int v133)])) _
    refine XS.istoreN X16.here hx rfl (hb hby d8_122) rfl (l' := #[.val (.ref a0), .val (.int (Int32.ofNat i)), .val (.int ((cs : List Int32).getD i 0)), .val (.int v133)]) (own_store3 hs3) ?_
    refine XS.iloadN X16.here hx rfl (hb hby d8_123) rfl ?_
    exact k
  have hk136 : ¬ (v133 = (0 : Int32)) := (by rw [hv133]; exact own_allow (hok _ (own_getD hi)))
  have pre137 : ∀ t, Steps p.tables e below (T16.setTop (mkF m 49 #[.val (.ref a0), .val (.int ((Int32.ofNat i) + (1 : Int32))), .val (.int ((cs : List Int32).getD i 0)), .val (.int v133)] [])) t → Steps p.tables e below (T0.setTop (mkF m 49 #[.val (.ref a0), .val (.int (Int32.ofNat i)), s2, s3] [])) t := by
    intro t k
    refine pre135 t ?_
    show Steps p.tables e below (T16.setTop (mkF m 124 #[.val (.ref a0), .val (.int (Int32.ofNat i)), .val (.int ((cs : List Int32).getD i 0)), .val (.int v133)] [(.int v133)])) _
    refine XS.ifYes X16.here hx rfl (pc0 := 124) (pc' := 141) rfl (hb hby d8_124) rfl ((if0 _ _).trans (feq hk136).2) (by decide) (by decide) ?_
    refine XS.iinc X16.here hx rfl (hb hby d8_141) rfl (l' := #[.val (.ref a0), .val (.int ((Int32.ofNat i) + (1 : Int32))), .val (.int ((cs : List Int32).getD i 0)), .val (.int v133)]) rfl ?_
    refine XS.goto X16.here hx rfl (pc0 := 144) (pc' := 49) rfl (hb hby d8_144) (by decide) (by decide) ?_
    exact k
  exact ⟨T16, v133, X16, e16, pre137⟩
set_option maxHeartbeats 4000000 in
theorem own_loop {p : Program} {l : Launch} {e : Env} {R : Room} {s : State} {m : MethodId} {args : Array Value} {below : List Frame} {meth : Method} {c : Code} {locs : List Loc} {cells slots : Nat} {Z : State} {ar0 : Array Value} {h0 : Heap} {a0 : Addr} {gc1 : Int32} {gf3 : Value} {t : Addr} {k_t : ClassId} {cs : List Int32} {nz : Int32}
    (hx : p.tables.exec = Jvm.exec) (hZ : Z.Warmed39 s.vm) (hw : ∀ d ∈ tables_1, d.before ar0 Z = true) (hby : c.code = prog_5_method_2_code) (hml : c.maxLocals = 4) (hown : s.vm.findClass "com/example/loomfilter/loomfilter/core/Layout" = some m.cls) (S1 : Sta Z h0 "java/lang/String" "COMPACT_STRINGS" "Z" (.int gc1)) (S2 : Sta Z h0 "jdk/internal/util/Preconditions" "SIOOBE_FORMATTER" "Ljava/util/function/BiFunction;" gf3) (E1 : Exa Z h0 a0 "java/lang/String") (F1 : Fld Z h0 a0 "java/lang/String" "value" "[B" (.ref t)) (F2 : Fld Z h0 a0 "java/lang/String" "coder" "B" (.int (0 : Int32))) (B1 : Arv Z h0 t k_t .byte nz (((cs : List Int32).map (fun c => c.toInt8.toInt32)).map Value.int) (.int (0 : Int32))) (P5 : ¬ (gc1 = (0 : Int32))) (rG3 : gf3.isRef = true) (hcd : StrChars.Road.CodA cs 0 nz ((cs.map (fun c => c.toInt8.toInt32)).map Value.int)) (hbd : ∀ c ∈ cs, ¬ c < 0 ∧ ¬ (65535 : Int32) < c) (h4 : cs.length ≤ 4000) (hok : ∀ c ∈ cs, own_ok c) (hfr : 4 ≤ R.frames) (hlo : 60 ≤ R.locals) (hcl : cells ≤ R.cells) (hsl : slots ≤ R.slots) (n : Nat) :
    ∀ (i : Nat) (T0 : State) (s2 s3 : Slot), Stand p l e R s m args below meth c T0 locs cells slots → T0.heap = h0 → One s2 → One s3 → i + n = cs.length →
    ∃ (T' : State) (s2' s3' : Slot), One s2' ∧ One s3' ∧ Stand p l e R s m args below meth c T' locs cells slots ∧ T'.heap = h0 ∧ ∀ t, Steps p.tables e below (T'.setTop (mkF m 49 #[.val (.ref a0), .val (.int (Int32.ofNat cs.length)), s2', s3'] [])) t → Steps p.tables e below (T0.setTop (mkF m 49 #[.val (.ref a0), .val (.int (Int32.ofNat i)), s2, s3] [])) t := by
  induction n with
  | zero => intro i T0 s2 s3 X0 e0 h2 h3 hn; exact ⟨T0, s2, s3, h2, h3, X0, e0, fun t k => by rw [show i = cs.length by omega]; exact k⟩
  | succ n ih =>
    intro i T0 s2 s3 X0 e0 h2 h3 hn
    obtain ⟨T1, z3, X1, e1, st1⟩ := own_turn (i := i) X0 hx hZ hw hby hml hown e0 h2 h3 S1 S2 E1 F1 F2 B1 P5 rG3 hcd hbd h4 hok (by omega) hfr hlo hcl hsl
    obtain ⟨T2, u2, u3, g1, g2, g3, g4, g5⟩ := ih (i + 1) T1 (.val (.int (cs.getD i 0))) (.val (.int z3)) X1 e1 (One.val rfl) (One.val rfl) (by omega)
    refine ⟨T2, u2, u3, g1, g2, g3, g4, fun t k => st1 t ?_⟩
    rw [← inc_ofNat i]
    exact g5 t k

theorem pd_2 : parseMethodDescriptor "()Z" = some ⟨[], some .boolean⟩ := by decide +kernel
theorem pn_1 : plainName "com/example/loomfilter/loomfilter/core/Layout" = true := by first | (simp [plainName, overriddenIn]; done) | decide +kernel
theorem d8_0 : decode prog_5_method_2_code 0 = .ok (.aload_n 0, 1) := by decide +kernel
theorem d8_1 : decode prog_5_method_2_code 1 = .ok (.invokevirtual 7, 3) := by decide +kernel
theorem d8_4 : decode prog_5_method_2_code 4 = .ok (.ifCond .ne 13, 3) := by decide +kernel
theorem d8_7 : decode prog_5_method_2_code 7 = .ok (.aload_n 0, 1) := by decide +kernel
theorem d8_8 : decode prog_5_method_2_code 8 = .ok (.invokevirtual 13, 3) := by decide +kernel
theorem d8_11 : decode prog_5_method_2_code 11 = .ok (.sipush 200, 3) := by decide +kernel
theorem d8_14 : decode prog_5_method_2_code 14 = .ok (.if_icmp .le 33, 3) := by decide +kernel
theorem d8_47 : decode prog_5_method_2_code 47 = .ok (.iconst 0, 1) := by decide +kernel
theorem d8_48 : decode prog_5_method_2_code 48 = .ok (.istore_n 1, 1) := by decide +kernel
theorem d8_147 : decode prog_5_method_2_code 147 = .ok (.aload_n 0, 1) := by decide +kernel
theorem d8_148 : decode prog_5_method_2_code 148 = .ok (.areturn, 1) := by decide +kernel
theorem ef_8 (m : MethodId) (x0 : Addr) : entryFrame m #[(.ref x0)] 4 = mkF m 0 #[.val (.ref x0), .unset, .unset, .unset] [] := by first | (simp [entryFrame, mkF, argsToLocals, Value.category]; done) | rfl
def Q8 (Z : State) (a0 : Addr) (cs : List Int32) (nz : Int32) (gc1 : Int32) (gf3 : Value) (t : Addr) (k_t : ClassId) (h0 : Heap) (n0 : Nat) (v : Option Value) (h : Heap) (L : List Loc) : Prop := v = some (.ref a0) ∧ Fr n0 L ∧ h = h0
set_option maxRecDepth 65536 in
set_option maxHeartbeats 40000000 in
theorem rm8 (l : Launch) (Z : State) (ar0 : Array Value) (hw : ∀ d ∈ tables_1, d.before ar0 Z = true) (ws : List Jvm.Cond) (a0 : Addr) (cs : List Int32) (nz : Int32) (gc1 : Int32) (gf3 : Value) (t : Addr) (k_t : ClassId) (h0 : Heap) (n0 : Nat) (Z0 : n0 ≤ h0.size) (P5 : ¬ (gc1 = (0 : Int32))) (rG3 : gf3.isRef = true) (hcd : StrChars.Road.CodA cs 0 nz ((cs.map (fun c => c.toInt8.toInt32)).map Value.int)) (hbd : ∀ c ∈ cs, ¬ c < 0 ∧ ¬ (65535 : Int32) < c) (h4 : cs.length ≤ 4000) (hok : ∀ c ∈ cs, own_ok c) (h1 : 0 < cs.length) (h200 : cs.length ≤ 200) (S_COMPACT_STRINGS : Sta Z h0 "java/lang/String" "COMPACT_STRINGS" "Z" (.int gc1)) (S_SIOOBE_FORMATTER : Sta Z h0 "jdk/internal/util/Preconditions" "SIOOBE_FORMATTER" "Ljava/util/function/BiFunction;" gf3) (E_a0 : Exa Z h0 a0 "java/lang/String") (F_value_a0 : Fld Z h0 a0 "java/lang/String" "value" "[B" (.ref t)) (F_coder_a0 : Fld Z h0 a0 "java/lang/String" "coder" "B" (.int (0 : Int32))) (B_t : Arv Z h0 t k_t .byte nz (((cs : List Int32).map (fun c => c.toInt8.toInt32)).map Value.int) (.int (0 : Int32))) :
    MetFree l (⟨"com/example/loomfilter/loomfilter/core/Layout", "checkName", "(Ljava/lang/String;)Ljava/lang/String;"⟩ : MethodName) (head1 (Jvm.Cond.code (⟨"com/example/loomfilter/loomfilter/core/Layout", "checkName", "(Ljava/lang/String;)Ljava/lang/String;"⟩ : MethodName) prog_5_method_2_code 4 (some (.object "java/lang/String")) :: ws) ({ frames := 4, cells := 0, slots := 0, locals := 60 } : Room)) (fun a U => a = #[(.ref a0)] ∧ Z.Warmed39 U.vm ∧ U.heap = h0) (fun _ _ _ _ _ => True) (fun _ U o U' => ∃ v L, o = .returned v ∧ Q8 Z a0 cs nz gc1 gf3 t k_t h0 n0 v U'.heap L ∧ FrameEnd U o U' L ({ frames := 4, cells := 0, slots := 0, locals := 60 } : Room).cells ({ frames := 4, cells := 0, slots := 0, locals := 60 } : Room).slots) := by
  refine MetFree.of_bodySF (plainFor_of_name pn_1) hisR ?_
  intro p e s m args below meth c s₁ Bd hml0 hP hK
  obtain ⟨rfl, hZ, hh⟩ := hP
  have hx := Bd.exec
  have hby := Bd.bytes
  have hml : c.maxLocals = 4 := hml0
  have hown : s.vm.findClass "com/example/loomfilter/loomfilter/core/Layout" = some m.cls := findClass_of_methodNamed Bd.named
  have hnm := (name_of_methodNamed Bd.named Bd.method).1
  have X0 : Stand p l e ({ frames := 4, cells := 0, slots := 0, locals := 60 } : Room) s m #[(.ref a0)] below meth c s₁ [] 0 0 := Stand.of_body Bd
  have e0 : s₁.heap = h0 := by rw [← hh, Bd.state]; rfl
  have N0 := Fr.nil n0
  have pre0 : ∀ t, Steps p.tables e below (s₁.setTop (mkF m 0 #[.val (.ref a0), .unset, .unset, .unset] [])) t → Steps p.tables e below (s₁.setTop (entryFrame m #[(.ref a0)] 4)) t := fun t k => castTop (ef_8 m a0) k
  have pre138 : ∀ t, Steps p.tables e below (s₁.setTop (mkF m 1 #[.val (.ref a0), .unset, .unset, .unset] [(.ref a0)])) t → Steps p.tables e below (s₁.setTop (entryFrame m #[(.ref a0)] 4)) t := by
    intro t k
    refine pre0 t ?_
    show Steps p.tables e below (s₁.setTop (mkF m 0 #[.val (.ref a0), .unset, .unset, .unset] [])) _
    refine XS.aloadN X0.here hx rfl (hb hby d8_0) rfl rfl ?_
    exact k
  obtain ⟨cq139, kq139, q139a, q139b, q139c⟩ := isOf hZ e0 E_a0
  obtain ⟨_, _, ⟨T139, L139, k139, n139⟩, -, X139, ⟨Lc139, hQ139, l139, y139, z139⟩, st139⟩ := X0.virtualBack hx (y := (⟨"java/lang/String", "isEmpty", "()Z"⟩ : MethodName)) (z := (⟨"java/lang/String", "isEmpty", "()Z"⟩ : MethodName)) hown (mvT hZ (hw _ (List.mem_of_getElem? (i := 39) rfl))) (mvT hZ (hw _ (List.mem_of_getElem? (i := 40) rfl))) (notFace_of_selects (args := #[]) (mvT hZ (hw _ (List.mem_of_getElem? (i := 42) rfl)))) (mvT hZ (hw _ (List.mem_of_getElem? (i := 42) rfl))) (mvT hZ (hw _ (List.mem_of_getElem? (i := 41) rfl))) (by decide) (StrChars.Road.empW (W := 0) hZ (own_wordsEmp hw) (kI := 4) (hw _ (List.mem_of_getElem? (i := 7) rfl)) E_a0 F_value_a0 F_coder_a0 B_t hcd hbd h4 (by decide) (by decide)) q139a q139c (g := (mkF m 1 #[.val (.ref a0), .unset, .unset, .unset] [(.ref a0)])) rfl (by rw [hml]; rfl) (Steps.refl _) (argsL := []) (rest := []) (lenOf pd_2 rfl) rfl (by show 2 * 0 + _ ≤ _; exact Nat.le_of_eq rfl) (hb hby d8_1) (fun _ _ => ⟨rfl, e0, (by decide : 0 + 0 ≤ _), (by decide : 0 + 0 ≤ _)⟩)
  dsimp only [Pt.U, Pt.locs, Pt.cells, Pt.slots] at X139 l139 y139 z139 st139 hQ139
  subst l139 y139 z139
  obtain ⟨rfl, rfl, e139⟩ := hQ139
  try rw [List.append_nil] at X139
  have pre140 : ∀ t, Steps p.tables e below (T139.setTop (mkF m 4 #[.val (.ref a0), .unset, .unset, .unset] [(.int (if (cs : List Int32).length = 0 then 1 else 0))])) t → Steps p.tables e below (s₁.setTop (entryFrame m #[(.ref a0)] 4)) t := fun t k => pre138 t (st139.trans k)
  have hk141 : (if (cs : List Int32).length = 0 then 1 else 0) = (0 : Int32) := if_neg (by omega)
  have pre142 : ∀ t, Steps p.tables e below (T139.setTop (mkF m 8 #[.val (.ref a0), .unset, .unset, .unset] [(.ref a0)])) t → Steps p.tables e below (s₁.setTop (entryFrame m #[(.ref a0)] 4)) t := by
    intro t k
    refine pre140 t ?_
    show Steps p.tables e below (T139.setTop (mkF m 4 #[.val (.ref a0), .unset, .unset, .unset] [(.int (if (cs : List Int32).length = 0 then 1 else 0))])) _
    refine XS.ifNo X139.here hx rfl (hb hby d8_4) rfl ((if0 _ _).trans (teq hk141).2) ?_
    refine XS.aloadN X139.here hx rfl (hb hby d8_7) rfl rfl ?_
    exact k
  obtain ⟨cq143, kq143, q143a, q143b, q143c⟩ := isOf hZ e139 E_a0
  obtain ⟨_, _, ⟨T143, L143, k143, n143⟩, -, X143, ⟨Lc143, hQ143, l143, y143, z143⟩, st143⟩ := X139.virtualBack hx (y := (⟨"java/lang/String", "length", "()I"⟩ : MethodName)) (z := (⟨"java/lang/String", "length", "()I"⟩ : MethodName)) hown (mvT hZ (hw _ (List.mem_of_getElem? (i := 44) rfl))) (mvT hZ (hw _ (List.mem_of_getElem? (i := 45) rfl))) (notFace_of_selects (args := #[]) (mvT hZ (hw _ (List.mem_of_getElem? (i := 47) rfl)))) (mvT hZ (hw _ (List.mem_of_getElem? (i := 47) rfl))) (mvT hZ (hw _ (List.mem_of_getElem? (i := 46) rfl))) (by decide) (StrChars.Road.lenW (W := 0) hZ (own_wordsLen hw) (kI := 4) (hw _ (List.mem_of_getElem? (i := 7) rfl)) E_a0 F_value_a0 F_coder_a0 B_t hcd hbd S_COMPACT_STRINGS P5 h4 (by decide) (by decide)) q143a q143c (g := (mkF m 8 #[.val (.ref a0), .unset, .unset, .unset] [(.ref a0)])) rfl (by rw [hml]; rfl) (Steps.refl _) (argsL := []) (rest := []) (lenOf pd_0 rfl) rfl (by show 2 * 0 + _ ≤ _; exact Nat.le_of_eq rfl) (hb hby d8_8) (fun _ _ => ⟨rfl, e139, (by decide : 0 + 0 ≤ _), (by decide : 0 + 0 ≤ _)⟩)
  dsimp only [Pt.U, Pt.locs, Pt.cells, Pt.slots] at X143 l143 y143 z143 st143 hQ143
  subst l143 y143 z143
  obtain ⟨rfl, rfl, e143⟩ := hQ143
  try rw [List.append_nil] at X143
  have pre144 : ∀ t, Steps p.tables e below (T143.setTop (mkF m 11 #[.val (.ref a0), .unset, .unset, .unset] [(.int (Int32.ofNat (cs : List Int32).length))])) t → Steps p.tables e below (s₁.setTop (entryFrame m #[(.ref a0)] 4)) t := fun t k => pre142 t (st143.trans k)
  have pre145 : ∀ t, Steps p.tables e below (T143.setTop (mkF m 14 #[.val (.ref a0), .unset, .unset, .unset] [(.int (200 : Int32)), (.int (Int32.ofNat (cs : List Int32).length))])) t → Steps p.tables e below (s₁.setTop (entryFrame m #[(.ref a0)] 4)) t := by
    intro t k
    refine pre144 t ?_
    show Steps p.tables e below (T143.setTop (mkF m 11 #[.val (.ref a0), .unset, .unset, .unset] [(.int (Int32.ofNat (cs : List Int32).length))])) _
    refine XS.sipush X143.here hx rfl (hb hby d8_11) ?_
    exact k
  have hk146 : ¬ ((200 : Int32) < (Int32.ofNat (cs : List Int32).length)) := own_l200 h200
  have pre147 : ∀ t, Steps p.tables e below (T143.setTop (mkF m 49 #[.val (.ref a0), .val (.int (0 : Int32)), .unset, .unset] [])) t → Steps p.tables e below (s₁.setTop (entryFrame m #[(.ref a0)] 4)) t := by
    intro t k
    refine pre145 t ?_
    show Steps p.tables e below (T143.setTop (mkF m 14 #[.val (.ref a0), .unset, .unset, .unset] [(.int (200 : Int32)), (.int (Int32.ofNat (cs : List Int32).length))])) _
    refine XS.icmpYes X143.here hx rfl (pc0 := 14) (pc' := 47) rfl (hb hby d8_14) rfl (flt hk146).2.2.2 (by decide) (by decide) ?_
    refine XS.iconst X143.here hx rfl (hb hby d8_47) ?_
    refine XS.istoreN X143.here hx rfl (hb hby d8_48) rfl (l' := #[.val (.ref a0), .val (.int (0 : Int32)), .unset, .unset]) rfl ?_
    exact k
  obtain ⟨T148, s2148, s3148, -, -, X148, e148, st148⟩ := own_loop hx hZ hw hby hml hown S_COMPACT_STRINGS S_SIOOBE_FORMATTER E_a0 F_value_a0 F_coder_a0 B_t P5 rG3 hcd hbd h4 hok (by decide) (by decide) (by decide) (by decide) cs.length 0 T143 .unset .unset X143 e143 One.u One.u (by omega)
  have pre149 : ∀ t, Steps p.tables e below (T148.setTop (mkF m 49 #[.val (.ref a0), .val (.int (Int32.ofNat (cs : List Int32).length)), s2148, s3148] [])) t → Steps p.tables e below (s₁.setTop (entryFrame m #[(.ref a0)] 4)) t := fun t k => pre147 t (st148 t k)
  have pre150 : ∀ t, Steps p.tables e below (T148.setTop (mkF m 51 #[.val (.ref a0), .val (.int (Int32.ofNat (cs : List Int32).length)), s2148, s3148] [(.ref a0), (.int (Int32.ofNat (cs : List Int32).length))])) t → Steps p.tables e below (s₁.setTop (entryFrame m #[(.ref a0)] 4)) t := by
    intro t k
    refine pre149 t ?_
    show Steps p.tables e below (T148.setTop (mkF m 49 #[.val (.ref a0), .val (.int (Int32.ofNat (cs : List Int32).length)), s2148, s3148] [])) _
    refine XS.iloadN X148.here hx rfl (hb hby d8_49) rfl ?_
    refine XS.aloadN X148.here hx rfl (hb hby d8_50) rfl rfl ?_
    exact k
  obtain ⟨cq151, kq151, q151a, q151b, q151c⟩ := isOf hZ e148 E_a0
  obtain ⟨_, _, ⟨T151, L151, k151, n151⟩, -, X151, ⟨Lc151, hQ151, l151, y151, z151⟩, st151⟩ := X148.virtualBack hx (y := (⟨"java/lang/String", "length", "()I"⟩ : MethodName)) (z := (⟨"java/lang/String", "length", "()I"⟩ : MethodName)) hown (mvT hZ (hw _ (List.mem_of_getElem? (i := 44) rfl))) (mvT hZ (hw _ (List.mem_of_getElem? (i := 45) rfl))) (notFace_of_selects (args := #[]) (mvT hZ (hw _ (List.mem_of_getElem? (i := 47) rfl)))) (mvT hZ (hw _ (List.mem_of_getElem? (i := 47) rfl))) (mvT hZ (hw _ (List.mem_of_getElem? (i := 46) rfl))) (by decide) (StrChars.Road.lenW (W := 1) hZ (own_wordsLen hw) (kI := 4) (hw _ (List.mem_of_getElem? (i := 7) rfl)) E_a0 F_value_a0 F_coder_a0 B_t hcd hbd S_COMPACT_STRINGS P5 h4 (by decide) (by decide)) q151a q151c (g := (mkF m 51 #[.val (.ref a0), .val (.int (Int32.ofNat (cs : List Int32).length)), s2148, s3148] [(.ref a0), (.int (Int32.ofNat (cs : List Int32).length))])) rfl (by rw [hml]; rfl) (Steps.refl _) (argsL := []) (rest := [(.int (Int32.ofNat (cs : List Int32).length))]) (lenOf pd_0 rfl) rfl (by show 2 * 0 + _ ≤ _; exact Nat.le_of_eq rfl) (hb hby d8_51) (fun _ _ => ⟨rfl, e148, (by decide : 0 + 0 ≤ _), (by decide : 0 + 0 ≤ _)⟩)
  dsimp only [Pt.U, Pt.locs, Pt.cells, Pt.slots] at X151 l151 y151 z151 st151 hQ151
  subst l151 y151 z151
  obtain ⟨rfl, rfl, e151⟩ := hQ151
  try rw [List.append_nil] at X151
  have pre152 : ∀ t, Steps p.tables e below (T151.setTop (mkF m 54 #[.val (.ref a0), .val (.int (Int32.ofNat (cs : List Int32).length)), s2148, s3148] [(.int (Int32.ofNat (cs : List Int32).length)), (.int (Int32.ofNat (cs : List Int32).length))])) t → Steps p.tables e below (s₁.setTop (entryFrame m #[(.ref a0)] 4)) t := fun t k => pre150 t (st151.trans k)
  have hk153 : ¬ ((Int32.ofNat (cs : List Int32).length) < (Int32.ofNat (cs : List Int32).length)) := own_irr _
  obtain ⟨fs, hr, hrun, hended, hW, hsame⟩ := X151.leave (v := some (.ref a0)) (fun h => by rw [Bd.returns] at h; cases h)
  refine ⟨_, _, pre152 _ ?_, hrun, hended, _, _, rfl, ?_, ⟨_, rfl⟩, hW, hsame.mono (by decide) (by decide)⟩
  · show Steps p.tables e below (T151.setTop (mkF m 54 #[.val (.ref a0), .val (.int (Int32.ofNat (cs : List Int32).length)), s2148, s3148] [(.int (Int32.ofNat (cs : List Int32).length)), (.int (Int32.ofNat (cs : List Int32).length))])) _
    refine XS.icmpYes X151.here hx rfl (pc0 := 54) (pc' := 147) rfl (hb hby d8_54) rfl (flt hk153).2.1 (by decide) (by decide) ?_
    refine XS.aloadN X151.here hx rfl (hb hby d8_147) rfl rfl ?_
    exact retOut X151 hx Bd.returns rfl (Or.inr (Or.inr (Or.inr (Or.inr ⟨rfl, rfl, rfl⟩)))) (hb hby d8_148) hr
  · show Q8 Z a0 cs nz gc1 gf3 t k_t h0 n0 _ T151.heap _
    rw [e151]
    exact ⟨rfl, N0, rfl⟩
theorem pd_3 : parseMethodDescriptor "([C)V" = some ⟨[(.array .char)], none⟩ := by decide +kernel
theorem pd_4 : parseMethodDescriptor "(Ljava/lang/String;)Ljava/lang/String;" = some ⟨[(.object "java/lang/String")], some (.object "java/lang/String")⟩ := by decide +kernel
theorem ef_0 (m : MethodId) (x0 : Int32) (x1 : Int32) (x2 : Int32) (x3 : Int32) (x4 : Int32) : entryFrame m #[(.int x0), (.int x1), (.int x2), (.int x3), (.int x4)] maxLocals = mkF m 0 #[.val (.int x0), .val (.int x1), .val (.int x2), .val (.int x3), .val (.int x4), .unset, .unset, .unset, .unset, .unset, .unset, .unset, .unset] [] := by first | (simp [entryFrame, mkF, argsToLocals, Value.category, maxLocals]; done) | rfl
def Q0 (Z : State) (p0 : Int32) (p1 : Int32) (p2 : Int32) (p3 : Int32) (p4 : Int32) (gc1 : Int32) (gf3 : Value) (h0 : Heap) (n0 : Nat) (v : Option Value) (h : Heap) (L : List Loc) : Prop := v = some (.int 1) ∧ Fr n0 L
theorem own_leaf1 {p0 : Int32} {p1 : Int32} {gc1 : Int32} {gf3 : Value} (rG3 : gf3.isRef = true) (P5 : ¬ (gc1 = (0 : Int32))) (hv155 : (1 : Int32) = ((1 : Int32) + (p0 &&& (3 : Int32)))) (hc172_206 : ¬ ((nar .char (f1 p1)) = (f1 p1))) : False := by
  exact hc172_206 (own_narc _)
theorem own_leaf2 {p0 : Int32} {p1 : Int32} {gc1 : Int32} {gf3 : Value} (rG3 : gf3.isRef = true) (P5 : ¬ (gc1 = (0 : Int32))) (hv155 : (2 : Int32) = ((1 : Int32) + (p0 &&& (3 : Int32)))) (hc172_262 : ¬ ((nar .char (f1 p1)) = (f1 p1))) : False := by
  exact hc172_262 (own_narc _)
theorem own_leaf3 {p0 : Int32} {p1 : Int32} {gc1 : Int32} {gf3 : Value} (rG3 : gf3.isRef = true) (P5 : ¬ (gc1 = (0 : Int32))) (hv155 : (3 : Int32) = ((1 : Int32) + (p0 &&& (3 : Int32)))) (hc172_324 : ¬ ((nar .char (f1 p1)) = (f1 p1))) : False := by
  exact hc172_324 (own_narc _)
theorem own_leaf4 {p0 : Int32} {p1 : Int32} {gc1 : Int32} {gf3 : Value} (rG3 : gf3.isRef = true) (P5 : ¬ (gc1 = (0 : Int32))) (hv155 : (4 : Int32) = ((1 : Int32) + (p0 &&& (3 : Int32)))) (hc172_392 : ¬ ((nar .char (f1 p1)) = (f1 p1))) : False := by
  exact hc172_392 (own_narc _)
set_option maxRecDepth 65536 in
set_option maxHeartbeats 40000000 in
theorem rm0 (l : Launch) (Z : State) (ar0 : Array Value) (hw : ∀ d ∈ tables_1, d.before ar0 Z = true) (ws : List Jvm.Cond) (p0 : Int32) (p1 : Int32) (p2 : Int32) (p3 : Int32) (p4 : Int32) (gc1 : Int32) (gf3 : Value) (h0 : Heap) (n0 : Nat) (Z0 : n0 ≤ h0.size) (P5 : ¬ (gc1 = (0 : Int32))) (rG3 : gf3.isRef = true) (S_COMPACT_STRINGS : Sta Z h0 "java/lang/String" "COMPACT_STRINGS" "Z" (.int gc1)) (S_SIOOBE_FORMATTER : Sta Z h0 "jdk/internal/util/Preconditions" "SIOOBE_FORMATTER" "Ljava/util/function/BiFunction;" gf3) :
    MetFree l x (head1 (Jvm.Cond.code x code maxLocals ret :: ws) room_1) (fun a U => a = #[(.int p0), (.int p1), (.int p2), (.int p3), (.int p4)] ∧ Z.Warmed39 U.vm ∧ U.heap = h0) (fun _ _ _ _ _ => True) (fun _ U o U' => ∃ v L, o = .returned v ∧ Q0 Z p0 p1 p2 p3 p4 gc1 gf3 h0 n0 v U'.heap L ∧ FrameEnd U o U' L room_1.cells room_1.slots) := by
  refine MetFree.of_bodySF (plainFor_of_name pn_0) hisR ?_
  intro p e s m args below meth c s₁ Bd hml0 hP hK
  obtain ⟨rfl, hZ, hh⟩ := hP
  have hx := Bd.exec
  have hby := Bd.bytes
  have hml : c.maxLocals = 13 := hml0
  have hown : s.vm.findClass "com/example/loomfilter/loomfilter/core/LayoutCheckNamePinLaw" = some m.cls := findClass_of_methodNamed Bd.named
  have hnm := (name_of_methodNamed Bd.named Bd.method).1
  have X0 : Stand p l e room_1 s m #[(.int p0), (.int p1), (.int p2), (.int p3), (.int p4)] below meth c s₁ [] 0 0 := Stand.of_body Bd
  have e0 : s₁.heap = h0 := by rw [← hh, Bd.state]; rfl
  have N0 := Fr.nil n0
  have pre0 : ∀ t, Steps p.tables e below (s₁.setTop (mkF m 0 #[.val (.int p0), .val (.int p1), .val (.int p2), .val (.int p3), .val (.int p4), .unset, .unset, .unset, .unset, .unset, .unset, .unset, .unset] [])) t → Steps p.tables e below (s₁.setTop (entryFrame m #[(.int p0), (.int p1), (.int p2), (.int p3), (.int p4)] maxLocals)) t := fun t k => castTop (ef_0 m p0 p1 p2 p3 p4) k
  have pre154 : ∀ t, Steps p.tables e below (s₁.setTop (mkF m 5 #[.val (.int p0), .val (.int p1), .val (.int p2), .val (.int p3), .val (.int p4), .unset, .unset, .unset, .unset, .unset, .unset, .unset, .unset] [(.int ((1 : Int32) + (p0 &&& (3 : Int32))))])) t → Steps p.tables e below (s₁.setTop (entryFrame m #[(.int p0), (.int p1), (.int p2), (.int p3), (.int p4)] maxLocals)) t := by
    intro t k
    refine pre0 t ?_
    show Steps p.tables e below (s₁.setTop (mkF m 0 #[.val (.int p0), .val (.int p1), .val (.int p2), .val (.int p3), .val (.int p4), .unset, .unset, .unset, .unset, .unset, .unset, .unset, .unset] [])) _
    refine XS.iconst X0.here hx rfl (hb hby at_0) ?_
    refine XS.iloadN X0.here hx rfl (hb hby at_1) rfl ?_
    refine XS.iconst X0.here hx rfl (hb hby at_2) ?_
    refine XS.iand X0.here hx rfl (hb hby at_3) rfl ?_
    refine XS.iadd X0.here hx rfl (hb hby at_4) rfl ?_
    exact k
  obtain ⟨v155, hv155⟩ : ∃ z : Int32, z = ((1 : Int32) + (p0 &&& (3 : Int32))) := ⟨_, rfl⟩
  have pre156 : ∀ t, Steps p.tables e below (s₁.setTop (mkF m 5 #[.val (.int p0), .val (.int p1), .val (.int p2), .val (.int p3), .val (.int p4), .unset, .unset, .unset, .unset, .unset, .unset, .unset, .unset] [(.int v155)])) t → Steps p.tables e below (s₁.setTop (entryFrame m #[(.int p0), (.int p1), (.int p2), (.int p3), (.int p4)] maxLocals)) t := by rw [hv155]; exact pre154
  have pre157 : ∀ t, Steps p.tables e below (s₁.setTop (mkF m 7 #[.val (.int p0), .val (.int p1), .val (.int p2), .val (.int p3), .val (.int p4), .val (.int v155), .unset, .unset, .unset, .unset, .unset, .unset, .unset] [])) t → Steps p.tables e below (s₁.setTop (entryFrame m #[(.int p0), (.int p1), (.int p2), (.int p3), (.int p4)] maxLocals)) t := by
    intro t k
    refine pre156 t ?_
    show Steps p.tables e below (s₁.setTop (mkF m 5 #[.val (.int p0), .val (.int p1), .val (.int p2), .val (.int p3), .val (.int p4), .unset, .unset, .unset, .unset, .unset, .unset, .unset, .unset] [(.int v155)])) _
    refine XS.istore X0.here hx rfl (hb hby at_5) rfl (l' := #[.val (.int p0), .val (.int p1), .val (.int p2), .val (.int p3), .val (.int p4), .val (.int v155), .unset, .unset, .unset, .unset, .unset, .unset, .unset]) rfl ?_
    exact k
  rcases own_n4 hv155 with rfl | rfl | rfl | rfl
  · have pre158 : ∀ t, Steps p.tables e below (s₁.setTop (mkF m 8 #[.val (.int p0), .val (.int p1), .val (.int p2), .val (.int p3), .val (.int p4), .val (.int (1 : Int32)), .unset, .unset, .unset, .unset, .unset, .unset, .unset] [(.int p1)])) t → Steps p.tables e below (s₁.setTop (entryFrame m #[(.int p0), (.int p1), (.int p2), (.int p3), (.int p4)] maxLocals)) t := by
      intro t k
      refine pre157 t ?_
      show Steps p.tables e below (s₁.setTop (mkF m 7 #[.val (.int p0), .val (.int p1), .val (.int p2), .val (.int p3), .val (.int p4), .val (.int (1 : Int32)), .unset, .unset, .unset, .unset, .unset, .unset, .unset] [])) _
      refine XS.iloadN X0.here hx rfl (hb hby at_7) rfl ?_
      exact k
    obtain ⟨_, _, ⟨T159, L159, k159, n159⟩, -, X159, ⟨Lc159, hQ159, l159, y159, z159⟩, st159⟩ := Jvm.LawKit.callS X0 hx (y := (⟨"com/example/loomfilter/loomfilter/core/LayoutCheckNamePinLaw", "allowed", "(I)C"⟩ : MethodName)) hown (mvT hZ (hw _ (List.mem_of_getElem? (i := 0) rfl))) (mvT hZ (hw _ (List.mem_of_getElem? (i := 1) rfl))) (mvT hZ (hw _ (List.mem_of_getElem? (i := 2) rfl))) (mvT hZ (hw _ (List.mem_of_getElem? (i := 3) rfl))) (by decide) (backOf (W := 0) (rm1 l Z ar0 hw [] p1 h0 n0 Z0) hZ (hw _ (List.mem_of_getElem? (i := 3) rfl)) (hw _ (List.mem_of_getElem? (i := 2) rfl)) (by decide) (by decide)) (g := (mkF m 8 #[.val (.int p0), .val (.int p1), .val (.int p2), .val (.int p3), .val (.int p4), .val (.int (1 : Int32)), .unset, .unset, .unset, .unset, .unset, .unset, .unset] [(.int p1)])) rfl (by rw [hml]; rfl) (argsL := [(.int p1)]) (rest := []) (lenOf pd_1 rfl) rfl (by show 2 * 0 + _ ≤ _; exact Nat.le_of_eq rfl) (hb hby at_8) (fun _ _ => ⟨rfl, e0, (by decide : 0 + 0 ≤ _), (by decide : 0 + 0 ≤ _)⟩)
    dsimp only [Pt.U, Pt.locs, Pt.cells, Pt.slots] at X159 l159 y159 z159 st159 hQ159
    subst l159 y159 z159
    obtain ⟨rfl, N159q, e159⟩ := hQ159
    have N159 := Fr.app N0 N159q
    have pre160 : ∀ t, Steps p.tables e below (T159.setTop (mkF m 11 #[.val (.int p0), .val (.int p1), .val (.int p2), .val (.int p3), .val (.int p4), .val (.int (1 : Int32)), .unset, .unset, .unset, .unset, .unset, .unset, .unset] [(.int (f1 p1))])) t → Steps p.tables e below (s₁.setTop (entryFrame m #[(.int p0), (.int p1), (.int p2), (.int p3), (.int p4)] maxLocals)) t := fun t k => pre158 t (st159 t k)
    have pre161 : ∀ t, Steps p.tables e below (T159.setTop (mkF m 14 #[.val (.int p0), .val (.int p1), .val (.int p2), .val (.int p3), .val (.int p4), .val (.int (1 : Int32)), .val (.int (f1 p1)), .unset, .unset, .unset, .unset, .unset, .unset] [(.int p2)])) t → Steps p.tables e below (s₁.setTop (entryFrame m #[(.int p0), (.int p1), (.int p2), (.int p3), (.int p4)] maxLocals)) t := by
      intro t k
      refine pre160 t ?_
      show Steps p.tables e below (T159.setTop (mkF m 11 #[.val (.int p0), .val (.int p1), .val (.int p2), .val (.int p3), .val (.int p4), .val (.int (1 : Int32)), .unset, .unset, .unset, .unset, .unset, .unset, .unset] [(.int (f1 p1))])) _
      refine XS.istore X159.here hx rfl (hb hby at_11) rfl (l' := #[.val (.int p0), .val (.int p1), .val (.int p2), .val (.int p3), .val (.int p4), .val (.int (1 : Int32)), .val (.int (f1 p1)), .unset, .unset, .unset, .unset, .unset, .unset]) rfl ?_
      refine XS.iloadN X159.here hx rfl (hb hby at_13) rfl ?_
      exact k
    obtain ⟨_, _, ⟨T162, L162, k162, n162⟩, -, X162, ⟨Lc162, hQ162, l162, y162, z162⟩, st162⟩ := Jvm.LawKit.callS X159 hx (y := (⟨"com/example/loomfilter/loomfilter/core/LayoutCheckNamePinLaw", "allowed", "(I)C"⟩ : MethodName)) hown (mvT hZ (hw _ (List.mem_of_getElem? (i := 0) rfl))) (mvT hZ (hw _ (List.mem_of_getElem? (i := 1) rfl))) (mvT hZ (hw _ (List.mem_of_getElem? (i := 2) rfl))) (mvT hZ (hw _ (List.mem_of_getElem? (i := 3) rfl))) (by decide) (backOf (W := 0) (rm1 l Z ar0 hw [] p2 h0 n0 Z0) hZ (hw _ (List.mem_of_getElem? (i := 3) rfl)) (hw _ (List.mem_of_getElem? (i := 2) rfl)) (by decide) (by decide)) (g := (mkF m 14 #[.val (.int p0), .val (.int p1), .val (.int p2), .val (.int p3), .val (.int p4), .val (.int (1 : Int32)), .val (.int (f1 p1)), .unset, .unset, .unset, .unset, .unset, .unset] [(.int p2)])) rfl (by rw [hml]; rfl) (argsL := [(.int p2)]) (rest := []) (lenOf pd_1 rfl) rfl (by show 2 * 0 + _ ≤ _; exact Nat.le_of_eq rfl) (hb hby at_14) (fun _ _ => ⟨rfl, e159, (by decide : 0 + 0 ≤ _), (by decide : 0 + 0 ≤ _)⟩)
    dsimp only [Pt.U, Pt.locs, Pt.cells, Pt.slots] at X162 l162 y162 z162 st162 hQ162
    subst l162 y162 z162
    obtain ⟨rfl, N162q, e162⟩ := hQ162
    have N162 := Fr.app N159 N162q
    have pre163 : ∀ t, Steps p.tables e below (T162.setTop (mkF m 17 #[.val (.int p0), .val (.int p1), .val (.int p2), .val (.int p3), .val (.int p4), .val (.int (1 : Int32)), .val (.int (f1 p1)), .unset, .unset, .unset, .unset, .unset, .unset] [(.int (f1 p2))])) t → Steps p.tables e below (s₁.setTop (entryFrame m #[(.int p0), (.int p1), (.int p2), (.int p3), (.int p4)] maxLocals)) t := fun t k => pre161 t (st162 t k)
    have pre164 : ∀ t, Steps p.tables e below (T162.setTop (mkF m 20 #[.val (.int p0), .val (.int p1), .val (.int p2), .val (.int p3), .val (.int p4), .val (.int (1 : Int32)), .val (.int (f1 p1)), .val (.int (f1 p2)), .unset, .unset, .unset, .unset, .unset] [(.int p3)])) t → Steps p.tables e below (s₁.setTop (entryFrame m #[(.int p0), (.int p1), (.int p2), (.int p3), (.int p4)] maxLocals)) t := by
      intro t k
      refine pre163 t ?_
      show Steps p.tables e below (T162.setTop (mkF m 17 #[.val (.int p0), .val (.int p1), .val (.int p2), .val (.int p3), .val (.int p4), .val (.int (1 : Int32)), .val (.int (f1 p1)), .unset, .unset, .unset, .unset, .unset, .unset] [(.int (f1 p2))])) _
      refine XS.istore X162.here hx rfl (hb hby at_17) rfl (l' := #[.val (.int p0), .val (.int p1), .val (.int p2), .val (.int p3), .val (.int p4), .val (.int (1 : Int32)), .val (.int (f1 p1)), .val (.int (f1 p2)), .unset, .unset, .unset, .unset, .unset]) rfl ?_
      refine XS.iloadN X162.here hx rfl (hb hby at_19) rfl ?_
      exact k
    obtain ⟨_, _, ⟨T165, L165, k165, n165⟩, -, X165, ⟨Lc165, hQ165, l165, y165, z165⟩, st165⟩ := Jvm.LawKit.callS X162 hx (y := (⟨"com/example/loomfilter/loomfilter/core/LayoutCheckNamePinLaw", "allowed", "(I)C"⟩ : MethodName)) hown (mvT hZ (hw _ (List.mem_of_getElem? (i := 0) rfl))) (mvT hZ (hw _ (List.mem_of_getElem? (i := 1) rfl))) (mvT hZ (hw _ (List.mem_of_getElem? (i := 2) rfl))) (mvT hZ (hw _ (List.mem_of_getElem? (i := 3) rfl))) (by decide) (backOf (W := 0) (rm1 l Z ar0 hw [] p3 h0 n0 Z0) hZ (hw _ (List.mem_of_getElem? (i := 3) rfl)) (hw _ (List.mem_of_getElem? (i := 2) rfl)) (by decide) (by decide)) (g := (mkF m 20 #[.val (.int p0), .val (.int p1), .val (.int p2), .val (.int p3), .val (.int p4), .val (.int (1 : Int32)), .val (.int (f1 p1)), .val (.int (f1 p2)), .unset, .unset, .unset, .unset, .unset] [(.int p3)])) rfl (by rw [hml]; rfl) (argsL := [(.int p3)]) (rest := []) (lenOf pd_1 rfl) rfl (by show 2 * 0 + _ ≤ _; exact Nat.le_of_eq rfl) (hb hby at_20) (fun _ _ => ⟨rfl, e162, (by decide : 0 + 0 ≤ _), (by decide : 0 + 0 ≤ _)⟩)
    dsimp only [Pt.U, Pt.locs, Pt.cells, Pt.slots] at X165 l165 y165 z165 st165 hQ165
    subst l165 y165 z165
    obtain ⟨rfl, N165q, e165⟩ := hQ165
    have N165 := Fr.app N162 N165q
    have pre166 : ∀ t, Steps p.tables e below (T165.setTop (mkF m 23 #[.val (.int p0), .val (.int p1), .val (.int p2), .val (.int p3), .val (.int p4), .val (.int (1 : Int32)), .val (.int (f1 p1)), .val (.int (f1 p2)), .unset, .unset, .unset, .unset, .unset] [(.int (f1 p3))])) t → Steps p.tables e below (s₁.setTop (entryFrame m #[(.int p0), (.int p1), (.int p2), (.int p3), (.int p4)] maxLocals)) t := fun t k => pre164 t (st165 t k)
    have pre167 : ∀ t, Steps p.tables e below (T165.setTop (mkF m 27 #[.val (.int p0), .val (.int p1), .val (.int p2), .val (.int p3), .val (.int p4), .val (.int (1 : Int32)), .val (.int (f1 p1)), .val (.int (f1 p2)), .val (.int (f1 p3)), .unset, .unset, .unset, .unset] [(.int p4)])) t → Steps p.tables e below (s₁.setTop (entryFrame m #[(.int p0), (.int p1), (.int p2), (.int p3), (.int p4)] maxLocals)) t := by
      intro t k
      refine pre166 t ?_
      show Steps p.tables e below (T165.setTop (mkF m 23 #[.val (.int p0), .val (.int p1), .val (.int p2), .val (.int p3), .val (.int p4), .val (.int (1 : Int32)), .val (.int (f1 p1)), .val (.int (f1 p2)), .unset, .unset, .unset, .unset, .unset] [(.int (f1 p3))])) _
      refine XS.istore X165.here hx rfl (hb hby at_23) rfl (l' := #[.val (.int p0), .val (.int p1), .val (.int p2), .val (.int p3), .val (.int p4), .val (.int (1 : Int32)), .val (.int (f1 p1)), .val (.int (f1 p2)), .val (.int (f1 p3)), .unset, .unset, .unset, .unset]) rfl ?_
      refine XS.iload X165.here hx rfl (hb hby at_25) rfl ?_
      exact k
    obtain ⟨_, _, ⟨T168, L168, k168, n168⟩, -, X168, ⟨Lc168, hQ168, l168, y168, z168⟩, st168⟩ := Jvm.LawKit.callS X165 hx (y := (⟨"com/example/loomfilter/loomfilter/core/LayoutCheckNamePinLaw", "allowed", "(I)C"⟩ : MethodName)) hown (mvT hZ (hw _ (List.mem_of_getElem? (i := 0) rfl))) (mvT hZ (hw _ (List.mem_of_getElem? (i := 1) rfl))) (mvT hZ (hw _ (List.mem_of_getElem? (i := 2) rfl))) (mvT hZ (hw _ (List.mem_of_getElem? (i := 3) rfl))) (by decide) (backOf (W := 0) (rm1 l Z ar0 hw [] p4 h0 n0 Z0) hZ (hw _ (List.mem_of_getElem? (i := 3) rfl)) (hw _ (List.mem_of_getElem? (i := 2) rfl)) (by decide) (by decide)) (g := (mkF m 27 #[.val (.int p0), .val (.int p1), .val (.int p2), .val (.int p3), .val (.int p4), .val (.int (1 : Int32)), .val (.int (f1 p1)), .val (.int (f1 p2)), .val (.int (f1 p3)), .unset, .unset, .unset, .unset] [(.int p4)])) rfl (by rw [hml]; rfl) (argsL := [(.int p4)]) (rest := []) (lenOf pd_1 rfl) rfl (by show 2 * 0 + _ ≤ _; exact Nat.le_of_eq rfl) (hb hby at_27) (fun _ _ => ⟨rfl, e165, (by decide : 0 + 0 ≤ _), (by decide : 0 + 0 ≤ _)⟩)
    dsimp only [Pt.U, Pt.locs, Pt.cells, Pt.slots] at X168 l168 y168 z168 st168 hQ168
    subst l168 y168 z168
    obtain ⟨rfl, N168q, e168⟩ := hQ168
    have N168 := Fr.app N165 N168q
    have pre169 : ∀ t, Steps p.tables e below (T168.setTop (mkF m 30 #[.val (.int p0), .val (.int p1), .val (.int p2), .val (.int p3), .val (.int p4), .val (.int (1 : Int32)), .val (.int (f1 p1)), .val (.int (f1 p2)), .val (.int (f1 p3)), .unset, .unset, .unset, .unset] [(.int (f1 p4))])) t → Steps p.tables e below (s₁.setTop (entryFrame m #[(.int p0), (.int p1), (.int p2), (.int p3), (.int p4)] maxLocals)) t := fun t k => pre167 t (st168 t k)
    have pre170 : ∀ t, Steps p.tables e below (T168.setTop (mkF m 39 #[.val (.int p0), .val (.int p1), .val (.int p2), .val (.int p3), .val (.int p4), .val (.int (1 : Int32)), .val (.int (f1 p1)), .val (.int (f1 p2)), .val (.int (f1 p3)), .val (.int (f1 p4)), .unset, .unset, .unset] [(.int (1 : Int32))])) t → Steps p.tables e below (s₁.setTop (entryFrame m #[(.int p0), (.int p1), (.int p2), (.int p3), (.int p4)] maxLocals)) t := by
      intro t k
      refine pre169 t ?_
      show Steps p.tables e below (T168.setTop (mkF m 30 #[.val (.int p0), .val (.int p1), .val (.int p2), .val (.int p3), .val (.int p4), .val (.int (1 : Int32)), .val (.int (f1 p1)), .val (.int (f1 p2)), .val (.int (f1 p3)), .unset, .unset, .unset, .unset] [(.int (f1 p4))])) _
      refine XS.istore X168.here hx rfl (hb hby at_30) rfl (l' := #[.val (.int p0), .val (.int p1), .val (.int p2), .val (.int p3), .val (.int p4), .val (.int (1 : Int32)), .val (.int (f1 p1)), .val (.int (f1 p2)), .val (.int (f1 p3)), .val (.int (f1 p4)), .unset, .unset, .unset]) rfl ?_
      refine XS.iload X168.here hx rfl (hb hby at_32) rfl ?_
      refine XS.iconst X168.here hx rfl (hb hby at_34) ?_
      refine XS.icmpNo X168.here hx rfl (hb hby at_35) rfl (teq (by decide : (1 : Int32) = (1 : Int32))).2 ?_
      refine XS.iconst X168.here hx rfl (hb hby at_38) ?_
      exact k
    obtain ⟨T171, h171, k171, X171, e171, E171, A171, C171, st171⟩ := newPE X168 hx hZ (hw _ (List.mem_of_getElem? (i := 5) rfl)) e168 (g := (mkF m 39 #[.val (.int p0), .val (.int p1), .val (.int p2), .val (.int p3), .val (.int p4), .val (.int (1 : Int32)), .val (.int (f1 p1)), .val (.int (f1 p2)), .val (.int (f1 p3)), .val (.int (f1 p4)), .unset, .unset, .unset] [(.int (1 : Int32))])) rfl (hb hby at_39) rfl (by decide) (cap := 1) (by decide) (by decide) (by decide) (by decide) (ad := "[C") rfl
    obtain ⟨b171, g171⟩ : ∃ z, z = h0.size := ⟨_, rfl⟩
    rw [← g171] at A171 C171 st171
    have g_b171 : n0 ≤ b171 := Nat.le_trans Z0 (Nat.le_of_eq g171.symm)
    have sz_b171 : h0.size ≤ b171 := Nat.le_trans (Keep.refl h0 []).1 (Nat.le_of_eq g171.symm)
    have Z171 : n0 ≤ h171.size := Nat.le_trans Z0 E171.1
    have K171 : Keep h0 h171 [] := (Keep.refl h0 []).ext E171
    have Sf172 : Sta Z h171 "java/lang/String" "COMPACT_STRINGS" "Z" (.int gc1) := (S_COMPACT_STRINGS).ext E171
    have Sf173 : Sta Z h171 "jdk/internal/util/Preconditions" "SIOOBE_FORMATTER" "Ljava/util/function/BiFunction;" gf3 := (S_SIOOBE_FORMATTER).ext E171
    have V_b171 : Arv Z h171 b171 k171 .char (1 : Int32) [(.int (0 : Int32))] (.int (0 : Int32)) := (Arv.new A171 (by decide)).pad (pad_rep [] (.int (0 : Int32)) 1)
    have pre174 : ∀ t, Steps p.tables e below (T171.setTop (mkF m 41 #[.val (.int p0), .val (.int p1), .val (.int p2), .val (.int p3), .val (.int p4), .val (.int (1 : Int32)), .val (.int (f1 p1)), .val (.int (f1 p2)), .val (.int (f1 p3)), .val (.int (f1 p4)), .unset, .unset, .unset] [(.ref b171)])) t → Steps p.tables e below (s₁.setTop (entryFrame m #[(.int p0), (.int p1), (.int p2), (.int p3), (.int p4)] maxLocals)) t := fun t k => pre170 t (st171 t k)
    have pre175 : ∀ t, Steps p.tables e below (T171.setTop (mkF m 45 #[.val (.int p0), .val (.int p1), .val (.int p2), .val (.int p3), .val (.int p4), .val (.int (1 : Int32)), .val (.int (f1 p1)), .val (.int (f1 p2)), .val (.int (f1 p3)), .val (.int (f1 p4)), .unset, .unset, .unset] [(.int (f1 p1)), (.int (0 : Int32)), (.ref b171), (.ref b171)])) t → Steps p.tables e below (s₁.setTop (entryFrame m #[(.int p0), (.int p1), (.int p2), (.int p3), (.int p4)] maxLocals)) t := by
      intro t k
      refine pre174 t ?_
      show Steps p.tables e below (T171.setTop (mkF m 41 #[.val (.int p0), .val (.int p1), .val (.int p2), .val (.int p3), .val (.int p4), .val (.int (1 : Int32)), .val (.int (f1 p1)), .val (.int (f1 p2)), .val (.int (f1 p3)), .val (.int (f1 p4)), .unset, .unset, .unset] [(.ref b171)])) _
      refine XS.dup X171.here hx rfl (hb hby at_41) rfl rfl ?_
      refine XS.iconst X171.here hx rfl (hb hby at_42) ?_
      refine XS.iload X171.here hx rfl (hb hby at_43) rfl ?_
      exact k
    obtain ⟨cl176, Ar176, q176, S176, M176, H176, G176⟩ := id V_b171
    have hin176 : ¬ ((0 : Int32) < 0 ∨ cl176.slots.size ≤ ((0 : Int32)).toNatClampNeg) := inb_of S176 ⟨by decide, by decide⟩
    obtain ⟨T176, h176, X176, e176, W176, st176⟩ := stC X171 hx hZ e171 Ar176 (j := (0 : Int32)) hin176 (g := (mkF m 45 #[.val (.int p0), .val (.int p1), .val (.int p2), .val (.int p3), .val (.int p4), .val (.int (1 : Int32)), .val (.int (f1 p1)), .val (.int (f1 p2)), .val (.int (f1 p3)), .val (.int (f1 p4)), .unset, .unset, .unset] [(.int (f1 p1)), (.int (0 : Int32)), (.ref b171), (.ref b171)])) rfl rfl (hb hby at_45)
    have Z176 : n0 ≤ h176.size := Nat.le_trans Z171 (Keep.of_wr W176).1
    have K176 : Keep h0 h176 [] := K171.wr W176 (Or.inr sz_b171)
    have N176 := Fr.snoc X176 N168 g_b171
    have Sf177 : Sta Z h176 "java/lang/String" "COMPACT_STRINGS" "Z" (.int gc1) := (Sf172).wr W176
    have Sf178 : Sta Z h176 "jdk/internal/util/Preconditions" "SIOOBE_FORMATTER" "Ljava/util/function/BiFunction;" gf3 := (Sf173).wr W176
    have Ef179 : Exa Z h176 b171 "[C" := (C171).wr W176
    have V176 : Arv Z h176 b171 k171 .char (1 : Int32) [(.int (nar .char (f1 p1)))] (.int (0 : Int32)) := Arv.set Ar176 q176 S176 M176 H176 G176 (fits_nar_char _) W176 0 rfl (Nat.le_of_ble_eq_true rfl)
    have pre180 : ∀ t, Steps p.tables e below (T176.setTop (mkF m 46 #[.val (.int p0), .val (.int p1), .val (.int p2), .val (.int p3), .val (.int p4), .val (.int (1 : Int32)), .val (.int (f1 p1)), .val (.int (f1 p2)), .val (.int (f1 p3)), .val (.int (f1 p4)), .unset, .unset, .unset] [(.ref b171)])) t → Steps p.tables e below (s₁.setTop (entryFrame m #[(.int p0), (.int p1), (.int p2), (.int p3), (.int p4)] maxLocals)) t := fun t k => pre175 t (st176 t k)
    have pre181 : ∀ t, Steps p.tables e below (T176.setTop (mkF m 129 #[.val (.int p0), .val (.int p1), .val (.int p2), .val (.int p3), .val (.int p4), .val (.int (1 : Int32)), .val (.int (f1 p1)), .val (.int (f1 p2)), .val (.int (f1 p3)), .val (.int (f1 p4)), .val (.ref b171), .unset, .unset] [])) t → Steps p.tables e below (s₁.setTop (entryFrame m #[(.int p0), (.int p1), (.int p2), (.int p3), (.int p4)] maxLocals)) t := by
      intro t k
      refine pre180 t ?_
      show Steps p.tables e below (T176.setTop (mkF m 46 #[.val (.int p0), .val (.int p1), .val (.int p2), .val (.int p3), .val (.int p4), .val (.int (1 : Int32)), .val (.int (f1 p1)), .val (.int (f1 p2)), .val (.int (f1 p3)), .val (.int (f1 p4)), .unset, .unset, .unset] [(.ref b171)])) _
      refine XS.astore X176.here hx rfl (hb hby at_46) rfl rfl (l' := #[.val (.int p0), .val (.int p1), .val (.int p2), .val (.int p3), .val (.int p4), .val (.int (1 : Int32)), .val (.int (f1 p1)), .val (.int (f1 p2)), .val (.int (f1 p3)), .val (.int (f1 p4)), .val (.ref b171), .unset, .unset]) rfl ?_
      refine XS.goto X176.here hx rfl (pc0 := 48) (pc' := 129) rfl (hb hby at_48) (by decide) (by decide) ?_
      exact k
    obtain ⟨T182, h182, X182, e182, E182, A182, D182, -, st182⟩ := newO X176 hx hZ hown (hw _ (List.mem_of_getElem? (i := 6) rfl)) (hw _ (List.mem_of_getElem? (i := 7) rfl)) (hw _ (List.mem_of_getElem? (i := 8) rfl)) e176 (g := (mkF m 129 #[.val (.int p0), .val (.int p1), .val (.int p2), .val (.int p3), .val (.int p4), .val (.int (1 : Int32)), .val (.int (f1 p1)), .val (.int (f1 p2)), .val (.int (f1 p3)), .val (.int (f1 p4)), .val (.ref b171), .unset, .unset] [])) rfl (hb hby at_129) (by decide) (by decide)
    obtain ⟨b182, g182⟩ : ∃ z, z = h176.size := ⟨_, rfl⟩
    rw [← g182] at A182 D182 st182
    have ne_b171_b182 : b171 ≠ b182 := Nat.ne_of_lt (Nat.lt_of_lt_of_le (Ef179).lt (Nat.le_of_eq g182.symm))
    have g_b182 : n0 ≤ b182 := Nat.le_trans Z176 (Nat.le_of_eq g182.symm)
    have sz_b182 : h0.size ≤ b182 := Nat.le_trans K176.1 (Nat.le_of_eq g182.symm)
    have Z182 : n0 ≤ h182.size := Nat.le_trans Z176 E182.1
    have K182 : Keep h0 h182 [] := K176.ext E182
    have Sf183 : Sta Z h182 "java/lang/String" "COMPACT_STRINGS" "Z" (.int gc1) := (Sf177).ext E182
    have Sf184 : Sta Z h182 "jdk/internal/util/Preconditions" "SIOOBE_FORMATTER" "Ljava/util/function/BiFunction;" gf3 := (Sf178).ext E182
    have Ef185 : Exa Z h182 b171 "[C" := (Ef179).ext E182
    have Vf186 : Arv Z h182 b171 k171 .char (1 : Int32) [(.int (nar .char (f1 p1)))] (.int (0 : Int32)) := (V176).ext E182
    have Fcoder_b182 : Fld Z h182 b182 "java/lang/String" "coder" "B" (.int (0 : Int32)) := D182 (Or.inr (hw _ (List.mem_of_getElem? (i := 32) rfl))) (ty := .byte) (by decide)
    have Fvalue_b182 : Fld Z h182 b182 "java/lang/String" "value" "[B" .null := D182 (Or.inr (hw _ (List.mem_of_getElem? (i := 34) rfl))) (ty := (.array .byte)) (by decide)
    have pre187 : ∀ t, Steps p.tables e below (T182.setTop (mkF m 132 #[.val (.int p0), .val (.int p1), .val (.int p2), .val (.int p3), .val (.int p4), .val (.int (1 : Int32)), .val (.int (f1 p1)), .val (.int (f1 p2)), .val (.int (f1 p3)), .val (.int (f1 p4)), .val (.ref b171), .unset, .unset] [(.ref b182)])) t → Steps p.tables e below (s₁.setTop (entryFrame m #[(.int p0), (.int p1), (.int p2), (.int p3), (.int p4)] maxLocals)) t := fun t k => pre181 t (st182 t k)
    have pre188 : ∀ t, Steps p.tables e below (T182.setTop (mkF m 135 #[.val (.int p0), .val (.int p1), .val (.int p2), .val (.int p3), .val (.int p4), .val (.int (1 : Int32)), .val (.int (f1 p1)), .val (.int (f1 p2)), .val (.int (f1 p3)), .val (.int (f1 p4)), .val (.ref b171), .unset, .unset] [(.ref b171), (.ref b182), (.ref b182)])) t → Steps p.tables e below (s₁.setTop (entryFrame m #[(.int p0), (.int p1), (.int p2), (.int p3), (.int p4)] maxLocals)) t := by
      intro t k
      refine pre187 t ?_
      show Steps p.tables e below (T182.setTop (mkF m 132 #[.val (.int p0), .val (.int p1), .val (.int p2), .val (.int p3), .val (.int p4), .val (.int (1 : Int32)), .val (.int (f1 p1)), .val (.int (f1 p2)), .val (.int (f1 p3)), .val (.int (f1 p4)), .val (.ref b171), .unset, .unset] [(.ref b182)])) _
      refine XS.dup X182.here hx rfl (hb hby at_132) rfl rfl ?_
      refine XS.aload X182.here hx rfl (hb hby at_133) rfl rfl ?_
      exact k
    have hp190 : ∀ c ∈ ([(nar .char (f1 p1))] : List Int32), ¬ c < 0 ∧ ¬ (255 : Int32) < c := own_hp1 p1
    obtain ⟨_, _, ⟨T189, L189, k189, n189⟩, -, X189, ⟨Lc189, hQ189, l189, y189, z189⟩, st189⟩ := X182.specialBack hx (y := (⟨"java/lang/String", "<init>", "([C)V"⟩ : MethodName)) rfl hown (mvT hZ (hw _ (List.mem_of_getElem? (i := 9) rfl))) (mvT hZ (hw _ (List.mem_of_getElem? (i := 10) rfl))) (mvT hZ (hw _ (List.mem_of_getElem? (i := 11) rfl))) (by decide) (StrChars.Road.backV (W := 1) hZ (own_words hw) (kI := 4) (hw _ (List.mem_of_getElem? (i := 7) rfl)) (cs := ([(nar .char (f1 p1))] : List Int32)) (bs := (([(nar .char (f1 p1))] : List Int32)).map (fun c => c.toInt8.toInt32)) (n := 1) g_b182 Z182 A182 Fvalue_b182 Fcoder_b182 Vf186 Sf183 P5 rfl rfl (by decide) (by decide) hp190 rfl (by decide) (by decide)) (g := (mkF m 135 #[.val (.int p0), .val (.int p1), .val (.int p2), .val (.int p3), .val (.int p4), .val (.int (1 : Int32)), .val (.int (f1 p1)), .val (.int (f1 p2)), .val (.int (f1 p3)), .val (.int (f1 p4)), .val (.ref b171), .unset, .unset] [(.ref b171), (.ref b182), (.ref b182)])) rfl (by rw [hml]; rfl) (Steps.refl _) (a := b182) (argsL := [(.ref b171)]) (rest := [(.ref b182)]) (lenOf pd_3 rfl) rfl (by show 2 * 0 + _ ≤ _; exact Nat.le_of_eq rfl) (hb hby at_135) (fun _ _ => ⟨rfl, e182, (by decide : 2 + 1 ≤ _), (by decide : 5 + 1 ≤ _)⟩)
    dsimp only [Pt.U, Pt.locs, Pt.cells, Pt.slots] at X189 l189 y189 z189 st189 hQ189
    subst l189 y189 z189
    obtain ⟨h189, e189⟩ : ∃ h, T189.heap = h := ⟨_, rfl⟩
    rw [e189] at hQ189
    obtain ⟨rfl, N189q, K189q, QE189, QC189, t189, kt189, g_t189, y_t189, ne189, QV189, QB189⟩ := hQ189
    have N189 := Fr.app N176 N189q
    have ne_b171_t189 : b171 ≠ t189 := Nat.ne_of_lt (Nat.lt_of_lt_of_le (Ef185).lt y_t189)
    have ne_b182_t189 : b182 ≠ t189 := Nat.ne_of_lt (Nat.lt_of_lt_of_le (A182).lt y_t189)
    have sz_t189 : h0.size ≤ t189 := Nat.le_trans K182.1 y_t189
    have Z189 : n0 ≤ h189.size := Nat.le_trans Z182 K189q.1
    have K189 : Keep h0 h189 [] := K182.trans K189q (fun x hx => by cases List.mem_singleton.mp hx; exact Or.inr sz_b182)
    have Sf191 : Sta Z h189 "java/lang/String" "COMPACT_STRINGS" "Z" (.int gc1) := own_sta_keep Sf183 K189q (own_ns1 (own_ns_exa A182))
    have Sf192 : Sta Z h189 "jdk/internal/util/Preconditions" "SIOOBE_FORMATTER" "Ljava/util/function/BiFunction;" gf3 := own_sta_keep Sf184 K189q (own_ns1 (own_ns_exa A182))
    have Ef193 : Exa Z h189 b171 "[C" := (Ef185).keep K189q
    have Vf194 : Arv Z h189 b171 k171 .char (1 : Int32) [(.int (nar .char (f1 p1)))] (.int (0 : Int32)) := (Vf186).keep K189q (fun q => absurd (List.mem_singleton.mp q) ne_b171_b182)
    have hcd189 : StrChars.Road.CodA ([(nar .char (f1 p1))] : List Int32) 0 (1 : Int32) ((([(nar .char (f1 p1))] : List Int32).map (fun c => c.toInt8.toInt32)).map Value.int) := StrChars.Road.codOf (n := 1) rfl (fun x hx => (hp190 x hx).2)
    have hbd189 := own_up _ hp190
    have pre195 : ∀ t, Steps p.tables e below (T189.setTop (mkF m 138 #[.val (.int p0), .val (.int p1), .val (.int p2), .val (.int p3), .val (.int p4), .val (.int (1 : Int32)), .val (.int (f1 p1)), .val (.int (f1 p2)), .val (.int (f1 p3)), .val (.int (f1 p4)), .val (.ref b171), .unset, .unset] [(.ref b182)])) t → Steps p.tables e below (s₁.setTop (entryFrame m #[(.int p0), (.int p1), (.int p2), (.int p3), (.int p4)] maxLocals)) t := fun t k => pre188 t (st189.trans k)
    have pre196 : ∀ t, Steps p.tables e below (T189.setTop (mkF m 142 #[.val (.int p0), .val (.int p1), .val (.int p2), .val (.int p3), .val (.int p4), .val (.int (1 : Int32)), .val (.int (f1 p1)), .val (.int (f1 p2)), .val (.int (f1 p3)), .val (.int (f1 p4)), .val (.ref b171), .val (.ref b182), .unset] [(.ref b182)])) t → Steps p.tables e below (s₁.setTop (entryFrame m #[(.int p0), (.int p1), (.int p2), (.int p3), (.int p4)] maxLocals)) t := by
      intro t k
      refine pre195 t ?_
      show Steps p.tables e below (T189.setTop (mkF m 138 #[.val (.int p0), .val (.int p1), .val (.int p2), .val (.int p3), .val (.int p4), .val (.int (1 : Int32)), .val (.int (f1 p1)), .val (.int (f1 p2)), .val (.int (f1 p3)), .val (.int (f1 p4)), .val (.ref b171), .unset, .unset] [(.ref b182)])) _
      refine XS.astore X189.here hx rfl (hb hby at_138) rfl rfl (l' := #[.val (.int p0), .val (.int p1), .val (.int p2), .val (.int p3), .val (.int p4), .val (.int (1 : Int32)), .val (.int (f1 p1)), .val (.int (f1 p2)), .val (.int (f1 p3)), .val (.int (f1 p4)), .val (.ref b171), .val (.ref b182), .unset]) rfl ?_
      refine XS.aload X189.here hx rfl (hb hby at_140) rfl rfl ?_
      exact k
    obtain ⟨_, _, ⟨T197, L197, k197, n197⟩, -, X197, ⟨Lc197, hQ197, l197, y197, z197⟩, st197⟩ := Jvm.LawKit.callS X189 hx (y := (⟨"com/example/loomfilter/loomfilter/core/Layout", "checkName", "(Ljava/lang/String;)Ljava/lang/String;"⟩ : MethodName)) hown (mvT hZ (hw _ (List.mem_of_getElem? (i := 35) rfl))) (mvT hZ (hw _ (List.mem_of_getElem? (i := 36) rfl))) (mvT hZ (hw _ (List.mem_of_getElem? (i := 37) rfl))) (mvT hZ (hw _ (List.mem_of_getElem? (i := 38) rfl))) (by decide) (backOf (W := 0) (rm8 l Z ar0 hw [] b182 ([(nar .char (f1 p1))]) (1 : Int32) gc1 gf3 t189 kt189 h189 n0 Z189 P5 rG3 hcd189 hbd189 (Nat.le_of_ble_eq_true rfl) (own_hok1 p1) (Nat.le_of_ble_eq_true rfl) (Nat.le_of_ble_eq_true rfl) Sf191 Sf192 QE189 QV189 QC189 QB189) hZ (hw _ (List.mem_of_getElem? (i := 38) rfl)) (hw _ (List.mem_of_getElem? (i := 37) rfl)) (by decide) (by decide)) (g := (mkF m 142 #[.val (.int p0), .val (.int p1), .val (.int p2), .val (.int p3), .val (.int p4), .val (.int (1 : Int32)), .val (.int (f1 p1)), .val (.int (f1 p2)), .val (.int (f1 p3)), .val (.int (f1 p4)), .val (.ref b171), .val (.ref b182), .unset] [(.ref b182)])) rfl (by rw [hml]; rfl) (argsL := [(.ref b182)]) (rest := []) (lenOf pd_4 rfl) rfl (by show 2 * 0 + _ ≤ _; exact Nat.le_of_eq rfl) (hb hby at_142) (fun _ _ => ⟨rfl, e189, (by decide : 3 + 0 ≤ _), (by decide : 6 + 0 ≤ _)⟩)
    dsimp only [Pt.U, Pt.locs, Pt.cells, Pt.slots] at X197 l197 y197 z197 st197 hQ197
    subst l197 y197 z197
    obtain ⟨rfl, N197q, e197⟩ := hQ197
    have N197 := Fr.app N189 N197q
    have pre198 : ∀ t, Steps p.tables e below (T197.setTop (mkF m 145 #[.val (.int p0), .val (.int p1), .val (.int p2), .val (.int p3), .val (.int p4), .val (.int (1 : Int32)), .val (.int (f1 p1)), .val (.int (f1 p2)), .val (.int (f1 p3)), .val (.int (f1 p4)), .val (.ref b171), .val (.ref b182), .unset] [(.ref b182)])) t → Steps p.tables e below (s₁.setTop (entryFrame m #[(.int p0), (.int p1), (.int p2), (.int p3), (.int p4)] maxLocals)) t := fun t k => pre196 t (st197 t k)
    have pre199 : ∀ t, Steps p.tables e below (T197.setTop (mkF m 156 #[.val (.int p0), .val (.int p1), .val (.int p2), .val (.int p3), .val (.int p4), .val (.int (1 : Int32)), .val (.int (f1 p1)), .val (.int (f1 p2)), .val (.int (f1 p3)), .val (.int (f1 p4)), .val (.ref b171), .val (.ref b182), .val (.ref b182)] [(.ref b182)])) t → Steps p.tables e below (s₁.setTop (entryFrame m #[(.int p0), (.int p1), (.int p2), (.int p3), (.int p4)] maxLocals)) t := by
      intro t k
      refine pre198 t ?_
      show Steps p.tables e below (T197.setTop (mkF m 145 #[.val (.int p0), .val (.int p1), .val (.int p2), .val (.int p3), .val (.int p4), .val (.int (1 : Int32)), .val (.int (f1 p1)), .val (.int (f1 p2)), .val (.int (f1 p3)), .val (.int (f1 p4)), .val (.ref b171), .val (.ref b182), .unset] [(.ref b182)])) _
      refine XS.astore X197.here hx rfl (hb hby at_145) rfl rfl (l' := #[.val (.int p0), .val (.int p1), .val (.int p2), .val (.int p3), .val (.int p4), .val (.int (1 : Int32)), .val (.int (f1 p1)), .val (.int (f1 p2)), .val (.int (f1 p3)), .val (.int (f1 p4)), .val (.ref b171), .val (.ref b182), .val (.ref b182)]) rfl ?_
      refine XS.aload X197.here hx rfl (hb hby at_147) rfl rfl ?_
      refine XS.aload X197.here hx rfl (hb hby at_149) rfl rfl ?_
      refine Jvm.RoadKit.acmp (g := (mkF m 151 #[.val (.int p0), .val (.int p1), .val (.int p2), .val (.int p3), .val (.int p4), .val (.int (1 : Int32)), .val (.int (f1 p1)), .val (.int (f1 p2)), .val (.int (f1 p3)), .val (.int (f1 p4)), .val (.ref b171), .val (.ref b182), .val (.ref b182)] [(.ref b182), (.ref b182)])) X197 hx rfl rfl rfl (pc0 := 151) (pc' := 154) (same := true) rfl (hb hby at_151) rfl (decide_eq_true rfl) (by decide) (by decide) ?_
      refine XS.aload X197.here hx rfl (hb hby at_154) rfl rfl ?_
      exact k
    obtain ⟨cq200, kq200, q200a, q200b, q200c⟩ := isOf hZ e197 QE189
    obtain ⟨_, _, ⟨T200, L200, k200, n200⟩, -, X200, ⟨Lc200, hQ200, l200, y200, z200⟩, st200⟩ := X197.virtualBack hx (y := (⟨"java/lang/String", "length", "()I"⟩ : MethodName)) (z := (⟨"java/lang/String", "length", "()I"⟩ : MethodName)) hown (mvT hZ (hw _ (List.mem_of_getElem? (i := 76) rfl))) (mvT hZ (hw _ (List.mem_of_getElem? (i := 45) rfl))) (notFace_of_selects (args := #[]) (mvT hZ (hw _ (List.mem_of_getElem? (i := 47) rfl)))) (mvT hZ (hw _ (List.mem_of_getElem? (i := 47) rfl))) (mvT hZ (hw _ (List.mem_of_getElem? (i := 46) rfl))) (by decide) (StrChars.Road.lenW (W := 0) hZ (own_wordsLen hw) (kI := 4) (hw _ (List.mem_of_getElem? (i := 7) rfl)) QE189 QV189 QC189 QB189 hcd189 hbd189 Sf191 P5 (Nat.le_of_ble_eq_true rfl) (by decide) (by decide)) q200a q200c (g := (mkF m 156 #[.val (.int p0), .val (.int p1), .val (.int p2), .val (.int p3), .val (.int p4), .val (.int (1 : Int32)), .val (.int (f1 p1)), .val (.int (f1 p2)), .val (.int (f1 p3)), .val (.int (f1 p4)), .val (.ref b171), .val (.ref b182), .val (.ref b182)] [(.ref b182)])) rfl (by rw [hml]; rfl) (Steps.refl _) (argsL := []) (rest := []) (lenOf pd_0 rfl) rfl (by show 2 * 0 + _ ≤ _; exact Nat.le_of_eq rfl) (hb hby at_156) (fun _ _ => ⟨rfl, e197, (by decide : 3 + 0 ≤ _), (by decide : 6 + 0 ≤ _)⟩)
    dsimp only [Pt.U, Pt.locs, Pt.cells, Pt.slots] at X200 l200 y200 z200 st200 hQ200
    subst l200 y200 z200
    obtain ⟨rfl, rfl, e200⟩ := hQ200
    try rw [List.append_nil] at X200
    have pre201 : ∀ t, Steps p.tables e below (T200.setTop (mkF m 159 #[.val (.int p0), .val (.int p1), .val (.int p2), .val (.int p3), .val (.int p4), .val (.int (1 : Int32)), .val (.int (f1 p1)), .val (.int (f1 p2)), .val (.int (f1 p3)), .val (.int (f1 p4)), .val (.ref b171), .val (.ref b182), .val (.ref b182)] [(.int (1 : Int32))])) t → Steps p.tables e below (s₁.setTop (entryFrame m #[(.int p0), (.int p1), (.int p2), (.int p3), (.int p4)] maxLocals)) t := fun t k => pre199 t (st200.trans k)
    have pre202 : ∀ t, Steps p.tables e below (T200.setTop (mkF m 167 #[.val (.int p0), .val (.int p1), .val (.int p2), .val (.int p3), .val (.int p4), .val (.int (1 : Int32)), .val (.int (f1 p1)), .val (.int (f1 p2)), .val (.int (f1 p3)), .val (.int (f1 p4)), .val (.ref b171), .val (.ref b182), .val (.ref b182)] [(.int (0 : Int32)), (.ref b182)])) t → Steps p.tables e below (s₁.setTop (entryFrame m #[(.int p0), (.int p1), (.int p2), (.int p3), (.int p4)] maxLocals)) t := by
      intro t k
      refine pre201 t ?_
      show Steps p.tables e below (T200.setTop (mkF m 159 #[.val (.int p0), .val (.int p1), .val (.int p2), .val (.int p3), .val (.int p4), .val (.int (1 : Int32)), .val (.int (f1 p1)), .val (.int (f1 p2)), .val (.int (f1 p3)), .val (.int (f1 p4)), .val (.ref b171), .val (.ref b182), .val (.ref b182)] [(.int (1 : Int32))])) _
      refine XS.iload X200.here hx rfl (hb hby at_159) rfl ?_
      refine XS.icmpNo X200.here hx rfl (hb hby at_161) rfl (teq (by decide : (1 : Int32) = (1 : Int32))).2 ?_
      refine XS.aload X200.here hx rfl (hb hby at_164) rfl rfl ?_
      refine XS.iconst X200.here hx rfl (hb hby at_166) ?_
      exact k
    obtain ⟨cq203, kq203, q203a, q203b, q203c⟩ := isOf hZ e200 QE189
    obtain ⟨_, _, ⟨T203, L203, k203, n203⟩, -, X203, ⟨Lc203, hQ203, l203, y203, z203⟩, st203⟩ := X200.virtualBack hx (y := (⟨"java/lang/String", "charAt", "(I)C"⟩ : MethodName)) (z := (⟨"java/lang/String", "charAt", "(I)C"⟩ : MethodName)) hown (mvT hZ (hw _ (List.mem_of_getElem? (i := 77) rfl))) (mvT hZ (hw _ (List.mem_of_getElem? (i := 55) rfl))) (notFace_of_selects (args := #[]) (mvT hZ (hw _ (List.mem_of_getElem? (i := 57) rfl)))) (mvT hZ (hw _ (List.mem_of_getElem? (i := 57) rfl))) (mvT hZ (hw _ (List.mem_of_getElem? (i := 56) rfl))) (by decide) (StrChars.Road.chN (W := 0) hZ (own_wordsChN hw) (kI := 4) (hw _ (List.mem_of_getElem? (i := 7) rfl)) QE189 QV189 QC189 QB189 hcd189 hbd189 Sf191 P5 Sf192 rG3 (Nat.le_of_ble_eq_true rfl) (i := 0) (Nat.le_of_ble_eq_true rfl) (j := (0 : Int32)) rfl (by decide) (by decide)) q203a q203c (g := (mkF m 167 #[.val (.int p0), .val (.int p1), .val (.int p2), .val (.int p3), .val (.int p4), .val (.int (1 : Int32)), .val (.int (f1 p1)), .val (.int (f1 p2)), .val (.int (f1 p3)), .val (.int (f1 p4)), .val (.ref b171), .val (.ref b182), .val (.ref b182)] [(.int (0 : Int32)), (.ref b182)])) rfl (by rw [hml]; rfl) (Steps.refl _) (argsL := [(.int (0 : Int32))]) (rest := []) (lenOf pd_1 rfl) rfl (by show 2 * 0 + _ ≤ _; exact Nat.le_of_eq rfl) (hb hby at_167) (fun _ _ => ⟨rfl, e200, (by decide : 3 + 0 ≤ _), (by decide : 6 + 0 ≤ _)⟩)
    dsimp only [Pt.U, Pt.locs, Pt.cells, Pt.slots] at X203 l203 y203 z203 st203 hQ203
    subst l203 y203 z203
    obtain ⟨rfl, rfl, e203⟩ := hQ203
    try rw [List.append_nil] at X203
    have pre204 : ∀ t, Steps p.tables e below (T203.setTop (mkF m 170 #[.val (.int p0), .val (.int p1), .val (.int p2), .val (.int p3), .val (.int p4), .val (.int (1 : Int32)), .val (.int (f1 p1)), .val (.int (f1 p2)), .val (.int (f1 p3)), .val (.int (f1 p4)), .val (.ref b171), .val (.ref b182), .val (.ref b182)] [(.int (nar .char (f1 p1)))])) t → Steps p.tables e below (s₁.setTop (entryFrame m #[(.int p0), (.int p1), (.int p2), (.int p3), (.int p4)] maxLocals)) t := fun t k => pre202 t (st203.trans k)
    have pre205 : ∀ t, Steps p.tables e below (T203.setTop (mkF m 172 #[.val (.int p0), .val (.int p1), .val (.int p2), .val (.int p3), .val (.int p4), .val (.int (1 : Int32)), .val (.int (f1 p1)), .val (.int (f1 p2)), .val (.int (f1 p3)), .val (.int (f1 p4)), .val (.ref b171), .val (.ref b182), .val (.ref b182)] [(.int (f1 p1)), (.int (nar .char (f1 p1)))])) t → Steps p.tables e below (s₁.setTop (entryFrame m #[(.int p0), (.int p1), (.int p2), (.int p3), (.int p4)] maxLocals)) t := by
      intro t k
      refine pre204 t ?_
      show Steps p.tables e below (T203.setTop (mkF m 170 #[.val (.int p0), .val (.int p1), .val (.int p2), .val (.int p3), .val (.int p4), .val (.int (1 : Int32)), .val (.int (f1 p1)), .val (.int (f1 p2)), .val (.int (f1 p3)), .val (.int (f1 p4)), .val (.ref b171), .val (.ref b182), .val (.ref b182)] [(.int (nar .char (f1 p1)))])) _
      refine XS.iload X203.here hx rfl (hb hby at_170) rfl ?_
      exact k
    by_cases hc172_206 : (nar .char (f1 p1)) = (f1 p1)
    · obtain ⟨fs, hr, hrun, hended, hW, hsame⟩ := X203.leave (v := some (.int (1 : Int32))) (fun h => by rw [Bd.returns] at h; cases h)
      refine ⟨_, _, pre205 _ ?_, hrun, hended, _, _, rfl, ?_, ⟨_, rfl⟩, hW, hsame.mono (by decide) (by decide)⟩
      · show Steps p.tables e below (T203.setTop (mkF m 172 #[.val (.int p0), .val (.int p1), .val (.int p2), .val (.int p3), .val (.int p4), .val (.int (1 : Int32)), .val (.int (f1 p1)), .val (.int (f1 p2)), .val (.int (f1 p3)), .val (.int (f1 p4)), .val (.ref b171), .val (.ref b182), .val (.ref b182)] [(.int (f1 p1)), (.int (nar .char (f1 p1)))])) _
        refine XS.icmpNo X203.here hx rfl (hb hby at_172) rfl (teq hc172_206).2 ?_
        refine XS.iconst X203.here hx rfl (hb hby at_175) ?_
        refine XS.goto X203.here hx rfl (pc0 := 176) (pc' := 180) rfl (hb hby at_176) (by decide) (by decide) ?_
        exact retN X203 hx (t := .boolean) Bd.returns (by simp) (hb hby at_180) hr
      · show Q0 Z p0 p1 p2 p3 p4 gc1 gf3 h0 n0 _ T203.heap _
        rw [e203]
        exact ⟨rfl, N197⟩
    · have pre207 : ∀ t, Steps p.tables e below (T203.setTop (mkF m 180 #[.val (.int p0), .val (.int p1), .val (.int p2), .val (.int p3), .val (.int p4), .val (.int (1 : Int32)), .val (.int (f1 p1)), .val (.int (f1 p2)), .val (.int (f1 p3)), .val (.int (f1 p4)), .val (.ref b171), .val (.ref b182), .val (.ref b182)] [(.int (0 : Int32))])) t → Steps p.tables e below (s₁.setTop (entryFrame m #[(.int p0), (.int p1), (.int p2), (.int p3), (.int p4)] maxLocals)) t := by
        intro t k
        refine pre205 t ?_
        show Steps p.tables e below (T203.setTop (mkF m 172 #[.val (.int p0), .val (.int p1), .val (.int p2), .val (.int p3), .val (.int p4), .val (.int (1 : Int32)), .val (.int (f1 p1)), .val (.int (f1 p2)), .val (.int (f1 p3)), .val (.int (f1 p4)), .val (.ref b171), .val (.ref b182), .val (.ref b182)] [(.int (f1 p1)), (.int (nar .char (f1 p1)))])) _
        refine XS.icmpYes X203.here hx rfl (pc0 := 172) (pc' := 179) rfl (hb hby at_172) rfl (feq hc172_206).2 (by decide) (by decide) ?_
        refine XS.iconst X203.here hx rfl (hb hby at_179) ?_
        exact k
      exact (own_leaf1 rG3 P5 hv155 hc172_206).elim
  · have pre208 : ∀ t, Steps p.tables e below (s₁.setTop (mkF m 8 #[.val (.int p0), .val (.int p1), .val (.int p2), .val (.int p3), .val (.int p4), .val (.int (2 : Int32)), .unset, .unset, .unset, .unset, .unset, .unset, .unset] [(.int p1)])) t → Steps p.tables e below (s₁.setTop (entryFrame m #[(.int p0), (.int p1), (.int p2), (.int p3), (.int p4)] maxLocals)) t := by
      intro t k
      refine pre157 t ?_
      show Steps p.tables e below (s₁.setTop (mkF m 7 #[.val (.int p0), .val (.int p1), .val (.int p2), .val (.int p3), .val (.int p4), .val (.int (2 : Int32)), .unset, .unset, .unset, .unset, .unset, .unset, .unset] [])) _
      refine XS.iloadN X0.here hx rfl (hb hby at_7) rfl ?_
      exact k
    obtain ⟨_, _, ⟨T209, L209, k209, n209⟩, -, X209, ⟨Lc209, hQ209, l209, y209, z209⟩, st209⟩ := Jvm.LawKit.callS X0 hx (y := (⟨"com/example/loomfilter/loomfilter/core/LayoutCheckNamePinLaw", "allowed", "(I)C"⟩ : MethodName)) hown (mvT hZ (hw _ (List.mem_of_getElem? (i := 0) rfl))) (mvT hZ (hw _ (List.mem_of_getElem? (i := 1) rfl))) (mvT hZ (hw _ (List.mem_of_getElem? (i := 2) rfl))) (mvT hZ (hw _ (List.mem_of_getElem? (i := 3) rfl))) (by decide) (backOf (W := 0) (rm1 l Z ar0 hw [] p1 h0 n0 Z0) hZ (hw _ (List.mem_of_getElem? (i := 3) rfl)) (hw _ (List.mem_of_getElem? (i := 2) rfl)) (by decide) (by decide)) (g := (mkF m 8 #[.val (.int p0), .val (.int p1), .val (.int p2), .val (.int p3), .val (.int p4), .val (.int (2 : Int32)), .unset, .unset, .unset, .unset, .unset, .unset, .unset] [(.int p1)])) rfl (by rw [hml]; rfl) (argsL := [(.int p1)]) (rest := []) (lenOf pd_1 rfl) rfl (by show 2 * 0 + _ ≤ _; exact Nat.le_of_eq rfl) (hb hby at_8) (fun _ _ => ⟨rfl, e0, (by decide : 0 + 0 ≤ _), (by decide : 0 + 0 ≤ _)⟩)
    dsimp only [Pt.U, Pt.locs, Pt.cells, Pt.slots] at X209 l209 y209 z209 st209 hQ209
    subst l209 y209 z209
    obtain ⟨rfl, N209q, e209⟩ := hQ209
    have N209 := Fr.app N0 N209q
    have pre210 : ∀ t, Steps p.tables e below (T209.setTop (mkF m 11 #[.val (.int p0), .val (.int p1), .val (.int p2), .val (.int p3), .val (.int p4), .val (.int (2 : Int32)), .unset, .unset, .unset, .unset, .unset, .unset, .unset] [(.int (f1 p1))])) t → Steps p.tables e below (s₁.setTop (entryFrame m #[(.int p0), (.int p1), (.int p2), (.int p3), (.int p4)] maxLocals)) t := fun t k => pre208 t (st209 t k)
    have pre211 : ∀ t, Steps p.tables e below (T209.setTop (mkF m 14 #[.val (.int p0), .val (.int p1), .val (.int p2), .val (.int p3), .val (.int p4), .val (.int (2 : Int32)), .val (.int (f1 p1)), .unset, .unset, .unset, .unset, .unset, .unset] [(.int p2)])) t → Steps p.tables e below (s₁.setTop (entryFrame m #[(.int p0), (.int p1), (.int p2), (.int p3), (.int p4)] maxLocals)) t := by
      intro t k
      refine pre210 t ?_
      show Steps p.tables e below (T209.setTop (mkF m 11 #[.val (.int p0), .val (.int p1), .val (.int p2), .val (.int p3), .val (.int p4), .val (.int (2 : Int32)), .unset, .unset, .unset, .unset, .unset, .unset, .unset] [(.int (f1 p1))])) _
      refine XS.istore X209.here hx rfl (hb hby at_11) rfl (l' := #[.val (.int p0), .val (.int p1), .val (.int p2), .val (.int p3), .val (.int p4), .val (.int (2 : Int32)), .val (.int (f1 p1)), .unset, .unset, .unset, .unset, .unset, .unset]) rfl ?_
      refine XS.iloadN X209.here hx rfl (hb hby at_13) rfl ?_
      exact k
    obtain ⟨_, _, ⟨T212, L212, k212, n212⟩, -, X212, ⟨Lc212, hQ212, l212, y212, z212⟩, st212⟩ := Jvm.LawKit.callS X209 hx (y := (⟨"com/example/loomfilter/loomfilter/core/LayoutCheckNamePinLaw", "allowed", "(I)C"⟩ : MethodName)) hown (mvT hZ (hw _ (List.mem_of_getElem? (i := 0) rfl))) (mvT hZ (hw _ (List.mem_of_getElem? (i := 1) rfl))) (mvT hZ (hw _ (List.mem_of_getElem? (i := 2) rfl))) (mvT hZ (hw _ (List.mem_of_getElem? (i := 3) rfl))) (by decide) (backOf (W := 0) (rm1 l Z ar0 hw [] p2 h0 n0 Z0) hZ (hw _ (List.mem_of_getElem? (i := 3) rfl)) (hw _ (List.mem_of_getElem? (i := 2) rfl)) (by decide) (by decide)) (g := (mkF m 14 #[.val (.int p0), .val (.int p1), .val (.int p2), .val (.int p3), .val (.int p4), .val (.int (2 : Int32)), .val (.int (f1 p1)), .unset, .unset, .unset, .unset, .unset, .unset] [(.int p2)])) rfl (by rw [hml]; rfl) (argsL := [(.int p2)]) (rest := []) (lenOf pd_1 rfl) rfl (by show 2 * 0 + _ ≤ _; exact Nat.le_of_eq rfl) (hb hby at_14) (fun _ _ => ⟨rfl, e209, (by decide : 0 + 0 ≤ _), (by decide : 0 + 0 ≤ _)⟩)
    dsimp only [Pt.U, Pt.locs, Pt.cells, Pt.slots] at X212 l212 y212 z212 st212 hQ212
    subst l212 y212 z212
    obtain ⟨rfl, N212q, e212⟩ := hQ212
    have N212 := Fr.app N209 N212q
    have pre213 : ∀ t, Steps p.tables e below (T212.setTop (mkF m 17 #[.val (.int p0), .val (.int p1), .val (.int p2), .val (.int p3), .val (.int p4), .val (.int (2 : Int32)), .val (.int (f1 p1)), .unset, .unset, .unset, .unset, .unset, .unset] [(.int (f1 p2))])) t → Steps p.tables e below (s₁.setTop (entryFrame m #[(.int p0), (.int p1), (.int p2), (.int p3), (.int p4)] maxLocals)) t := fun t k => pre211 t (st212 t k)
    have pre214 : ∀ t, Steps p.tables e below (T212.setTop (mkF m 20 #[.val (.int p0), .val (.int p1), .val (.int p2), .val (.int p3), .val (.int p4), .val (.int (2 : Int32)), .val (.int (f1 p1)), .val (.int (f1 p2)), .unset, .unset, .unset, .unset, .unset] [(.int p3)])) t → Steps p.tables e below (s₁.setTop (entryFrame m #[(.int p0), (.int p1), (.int p2), (.int p3), (.int p4)] maxLocals)) t := by
      intro t k
      refine pre213 t ?_
      show Steps p.tables e below (T212.setTop (mkF m 17 #[.val (.int p0), .val (.int p1), .val (.int p2), .val (.int p3), .val (.int p4), .val (.int (2 : Int32)), .val (.int (f1 p1)), .unset, .unset, .unset, .unset, .unset, .unset] [(.int (f1 p2))])) _
      refine XS.istore X212.here hx rfl (hb hby at_17) rfl (l' := #[.val (.int p0), .val (.int p1), .val (.int p2), .val (.int p3), .val (.int p4), .val (.int (2 : Int32)), .val (.int (f1 p1)), .val (.int (f1 p2)), .unset, .unset, .unset, .unset, .unset]) rfl ?_
      refine XS.iloadN X212.here hx rfl (hb hby at_19) rfl ?_
      exact k
    obtain ⟨_, _, ⟨T215, L215, k215, n215⟩, -, X215, ⟨Lc215, hQ215, l215, y215, z215⟩, st215⟩ := Jvm.LawKit.callS X212 hx (y := (⟨"com/example/loomfilter/loomfilter/core/LayoutCheckNamePinLaw", "allowed", "(I)C"⟩ : MethodName)) hown (mvT hZ (hw _ (List.mem_of_getElem? (i := 0) rfl))) (mvT hZ (hw _ (List.mem_of_getElem? (i := 1) rfl))) (mvT hZ (hw _ (List.mem_of_getElem? (i := 2) rfl))) (mvT hZ (hw _ (List.mem_of_getElem? (i := 3) rfl))) (by decide) (backOf (W := 0) (rm1 l Z ar0 hw [] p3 h0 n0 Z0) hZ (hw _ (List.mem_of_getElem? (i := 3) rfl)) (hw _ (List.mem_of_getElem? (i := 2) rfl)) (by decide) (by decide)) (g := (mkF m 20 #[.val (.int p0), .val (.int p1), .val (.int p2), .val (.int p3), .val (.int p4), .val (.int (2 : Int32)), .val (.int (f1 p1)), .val (.int (f1 p2)), .unset, .unset, .unset, .unset, .unset] [(.int p3)])) rfl (by rw [hml]; rfl) (argsL := [(.int p3)]) (rest := []) (lenOf pd_1 rfl) rfl (by show 2 * 0 + _ ≤ _; exact Nat.le_of_eq rfl) (hb hby at_20) (fun _ _ => ⟨rfl, e212, (by decide : 0 + 0 ≤ _), (by decide : 0 + 0 ≤ _)⟩)
    dsimp only [Pt.U, Pt.locs, Pt.cells, Pt.slots] at X215 l215 y215 z215 st215 hQ215
    subst l215 y215 z215
    obtain ⟨rfl, N215q, e215⟩ := hQ215
    have N215 := Fr.app N212 N215q
    have pre216 : ∀ t, Steps p.tables e below (T215.setTop (mkF m 23 #[.val (.int p0), .val (.int p1), .val (.int p2), .val (.int p3), .val (.int p4), .val (.int (2 : Int32)), .val (.int (f1 p1)), .val (.int (f1 p2)), .unset, .unset, .unset, .unset, .unset] [(.int (f1 p3))])) t → Steps p.tables e below (s₁.setTop (entryFrame m #[(.int p0), (.int p1), (.int p2), (.int p3), (.int p4)] maxLocals)) t := fun t k => pre214 t (st215 t k)
    have pre217 : ∀ t, Steps p.tables e below (T215.setTop (mkF m 27 #[.val (.int p0), .val (.int p1), .val (.int p2), .val (.int p3), .val (.int p4), .val (.int (2 : Int32)), .val (.int (f1 p1)), .val (.int (f1 p2)), .val (.int (f1 p3)), .unset, .unset, .unset, .unset] [(.int p4)])) t → Steps p.tables e below (s₁.setTop (entryFrame m #[(.int p0), (.int p1), (.int p2), (.int p3), (.int p4)] maxLocals)) t := by
      intro t k
      refine pre216 t ?_
      show Steps p.tables e below (T215.setTop (mkF m 23 #[.val (.int p0), .val (.int p1), .val (.int p2), .val (.int p3), .val (.int p4), .val (.int (2 : Int32)), .val (.int (f1 p1)), .val (.int (f1 p2)), .unset, .unset, .unset, .unset, .unset] [(.int (f1 p3))])) _
      refine XS.istore X215.here hx rfl (hb hby at_23) rfl (l' := #[.val (.int p0), .val (.int p1), .val (.int p2), .val (.int p3), .val (.int p4), .val (.int (2 : Int32)), .val (.int (f1 p1)), .val (.int (f1 p2)), .val (.int (f1 p3)), .unset, .unset, .unset, .unset]) rfl ?_
      refine XS.iload X215.here hx rfl (hb hby at_25) rfl ?_
      exact k
    obtain ⟨_, _, ⟨T218, L218, k218, n218⟩, -, X218, ⟨Lc218, hQ218, l218, y218, z218⟩, st218⟩ := Jvm.LawKit.callS X215 hx (y := (⟨"com/example/loomfilter/loomfilter/core/LayoutCheckNamePinLaw", "allowed", "(I)C"⟩ : MethodName)) hown (mvT hZ (hw _ (List.mem_of_getElem? (i := 0) rfl))) (mvT hZ (hw _ (List.mem_of_getElem? (i := 1) rfl))) (mvT hZ (hw _ (List.mem_of_getElem? (i := 2) rfl))) (mvT hZ (hw _ (List.mem_of_getElem? (i := 3) rfl))) (by decide) (backOf (W := 0) (rm1 l Z ar0 hw [] p4 h0 n0 Z0) hZ (hw _ (List.mem_of_getElem? (i := 3) rfl)) (hw _ (List.mem_of_getElem? (i := 2) rfl)) (by decide) (by decide)) (g := (mkF m 27 #[.val (.int p0), .val (.int p1), .val (.int p2), .val (.int p3), .val (.int p4), .val (.int (2 : Int32)), .val (.int (f1 p1)), .val (.int (f1 p2)), .val (.int (f1 p3)), .unset, .unset, .unset, .unset] [(.int p4)])) rfl (by rw [hml]; rfl) (argsL := [(.int p4)]) (rest := []) (lenOf pd_1 rfl) rfl (by show 2 * 0 + _ ≤ _; exact Nat.le_of_eq rfl) (hb hby at_27) (fun _ _ => ⟨rfl, e215, (by decide : 0 + 0 ≤ _), (by decide : 0 + 0 ≤ _)⟩)
    dsimp only [Pt.U, Pt.locs, Pt.cells, Pt.slots] at X218 l218 y218 z218 st218 hQ218
    subst l218 y218 z218
    obtain ⟨rfl, N218q, e218⟩ := hQ218
    have N218 := Fr.app N215 N218q
    have pre219 : ∀ t, Steps p.tables e below (T218.setTop (mkF m 30 #[.val (.int p0), .val (.int p1), .val (.int p2), .val (.int p3), .val (.int p4), .val (.int (2 : Int32)), .val (.int (f1 p1)), .val (.int (f1 p2)), .val (.int (f1 p3)), .unset, .unset, .unset, .unset] [(.int (f1 p4))])) t → Steps p.tables e below (s₁.setTop (entryFrame m #[(.int p0), (.int p1), (.int p2), (.int p3), (.int p4)] maxLocals)) t := fun t k => pre217 t (st218 t k)
    have pre220 : ∀ t, Steps p.tables e below (T218.setTop (mkF m 58 #[.val (.int p0), .val (.int p1), .val (.int p2), .val (.int p3), .val (.int p4), .val (.int (2 : Int32)), .val (.int (f1 p1)), .val (.int (f1 p2)), .val (.int (f1 p3)), .val (.int (f1 p4)), .unset, .unset, .unset] [(.int (2 : Int32))])) t → Steps p.tables e below (s₁.setTop (entryFrame m #[(.int p0), (.int p1), (.int p2), (.int p3), (.int p4)] maxLocals)) t := by
      intro t k
      refine pre219 t ?_
      show Steps p.tables e below (T218.setTop (mkF m 30 #[.val (.int p0), .val (.int p1), .val (.int p2), .val (.int p3), .val (.int p4), .val (.int (2 : Int32)), .val (.int (f1 p1)), .val (.int (f1 p2)), .val (.int (f1 p3)), .unset, .unset, .unset, .unset] [(.int (f1 p4))])) _
      refine XS.istore X218.here hx rfl (hb hby at_30) rfl (l' := #[.val (.int p0), .val (.int p1), .val (.int p2), .val (.int p3), .val (.int p4), .val (.int (2 : Int32)), .val (.int (f1 p1)), .val (.int (f1 p2)), .val (.int (f1 p3)), .val (.int (f1 p4)), .unset, .unset, .unset]) rfl ?_
      refine XS.iload X218.here hx rfl (hb hby at_32) rfl ?_
      refine XS.iconst X218.here hx rfl (hb hby at_34) ?_
      refine XS.icmpYes X218.here hx rfl (pc0 := 35) (pc' := 51) rfl (hb hby at_35) rfl (feq (by decide : ¬ (2 : Int32) = (1 : Int32))).2 (by decide) (by decide) ?_
      refine XS.iload X218.here hx rfl (hb hby at_51) rfl ?_
      refine XS.iconst X218.here hx rfl (hb hby at_53) ?_
      refine XS.icmpNo X218.here hx rfl (hb hby at_54) rfl (teq (by decide : (2 : Int32) = (2 : Int32))).2 ?_
      refine XS.iconst X218.here hx rfl (hb hby at_57) ?_
      exact k
    obtain ⟨T221, h221, k221, X221, e221, E221, A221, C221, st221⟩ := newPE X218 hx hZ (hw _ (List.mem_of_getElem? (i := 5) rfl)) e218 (g := (mkF m 58 #[.val (.int p0), .val (.int p1), .val (.int p2), .val (.int p3), .val (.int p4), .val (.int (2 : Int32)), .val (.int (f1 p1)), .val (.int (f1 p2)), .val (.int (f1 p3)), .val (.int (f1 p4)), .unset, .unset, .unset] [(.int (2 : Int32))])) rfl (hb hby at_58) rfl (by decide) (cap := 2) (by decide) (by decide) (by decide) (by decide) (ad := "[C") rfl
    obtain ⟨b221, g221⟩ : ∃ z, z = h0.size := ⟨_, rfl⟩
    rw [← g221] at A221 C221 st221
    have g_b221 : n0 ≤ b221 := Nat.le_trans Z0 (Nat.le_of_eq g221.symm)
    have sz_b221 : h0.size ≤ b221 := Nat.le_trans (Keep.refl h0 []).1 (Nat.le_of_eq g221.symm)
    have Z221 : n0 ≤ h221.size := Nat.le_trans Z0 E221.1
    have K221 : Keep h0 h221 [] := (Keep.refl h0 []).ext E221
    have Sf222 : Sta Z h221 "java/lang/String" "COMPACT_STRINGS" "Z" (.int gc1) := (S_COMPACT_STRINGS).ext E221
    have Sf223 : Sta Z h221 "jdk/internal/util/Preconditions" "SIOOBE_FORMATTER" "Ljava/util/function/BiFunction;" gf3 := (S_SIOOBE_FORMATTER).ext E221
    have V_b221 : Arv Z h221 b221 k221 .char (2 : Int32) [(.int (0 : Int32)), (.int (0 : Int32))] (.int (0 : Int32)) := (Arv.new A221 (by decide)).pad (pad_rep [] (.int (0 : Int32)) 2)
    have pre224 : ∀ t, Steps p.tables e below (T221.setTop (mkF m 60 #[.val (.int p0), .val (.int p1), .val (.int p2), .val (.int p3), .val (.int p4), .val (.int (2 : Int32)), .val (.int (f1 p1)), .val (.int (f1 p2)), .val (.int (f1 p3)), .val (.int (f1 p4)), .unset, .unset, .unset] [(.ref b221)])) t → Steps p.tables e below (s₁.setTop (entryFrame m #[(.int p0), (.int p1), (.int p2), (.int p3), (.int p4)] maxLocals)) t := fun t k => pre220 t (st221 t k)
    have pre225 : ∀ t, Steps p.tables e below (T221.setTop (mkF m 64 #[.val (.int p0), .val (.int p1), .val (.int p2), .val (.int p3), .val (.int p4), .val (.int (2 : Int32)), .val (.int (f1 p1)), .val (.int (f1 p2)), .val (.int (f1 p3)), .val (.int (f1 p4)), .unset, .unset, .unset] [(.int (f1 p1)), (.int (0 : Int32)), (.ref b221), (.ref b221)])) t → Steps p.tables e below (s₁.setTop (entryFrame m #[(.int p0), (.int p1), (.int p2), (.int p3), (.int p4)] maxLocals)) t := by
      intro t k
      refine pre224 t ?_
      show Steps p.tables e below (T221.setTop (mkF m 60 #[.val (.int p0), .val (.int p1), .val (.int p2), .val (.int p3), .val (.int p4), .val (.int (2 : Int32)), .val (.int (f1 p1)), .val (.int (f1 p2)), .val (.int (f1 p3)), .val (.int (f1 p4)), .unset, .unset, .unset] [(.ref b221)])) _
      refine XS.dup X221.here hx rfl (hb hby at_60) rfl rfl ?_
      refine XS.iconst X221.here hx rfl (hb hby at_61) ?_
      refine XS.iload X221.here hx rfl (hb hby at_62) rfl ?_
      exact k
    obtain ⟨cl226, Ar226, q226, S226, M226, H226, G226⟩ := id V_b221
    have hin226 : ¬ ((0 : Int32) < 0 ∨ cl226.slots.size ≤ ((0 : Int32)).toNatClampNeg) := inb_of S226 ⟨by decide, by decide⟩
    obtain ⟨T226, h226, X226, e226, W226, st226⟩ := stC X221 hx hZ e221 Ar226 (j := (0 : Int32)) hin226 (g := (mkF m 64 #[.val (.int p0), .val (.int p1), .val (.int p2), .val (.int p3), .val (.int p4), .val (.int (2 : Int32)), .val (.int (f1 p1)), .val (.int (f1 p2)), .val (.int (f1 p3)), .val (.int (f1 p4)), .unset, .unset, .unset] [(.int (f1 p1)), (.int (0 : Int32)), (.ref b221), (.ref b221)])) rfl rfl (hb hby at_64)
    have Z226 : n0 ≤ h226.size := Nat.le_trans Z221 (Keep.of_wr W226).1
    have K226 : Keep h0 h226 [] := K221.wr W226 (Or.inr sz_b221)
    have N226 := Fr.snoc X226 N218 g_b221
    have Sf227 : Sta Z h226 "java/lang/String" "COMPACT_STRINGS" "Z" (.int gc1) := (Sf222).wr W226
    have Sf228 : Sta Z h226 "jdk/internal/util/Preconditions" "SIOOBE_FORMATTER" "Ljava/util/function/BiFunction;" gf3 := (Sf223).wr W226
    have Ef229 : Exa Z h226 b221 "[C" := (C221).wr W226
    have V226 : Arv Z h226 b221 k221 .char (2 : Int32) [(.int (nar .char (f1 p1))), (.int (0 : Int32))] (.int (0 : Int32)) := Arv.set Ar226 q226 S226 M226 H226 G226 (fits_nar_char _) W226 0 rfl (Nat.le_of_ble_eq_true rfl)
    have pre230 : ∀ t, Steps p.tables e below (T226.setTop (mkF m 65 #[.val (.int p0), .val (.int p1), .val (.int p2), .val (.int p3), .val (.int p4), .val (.int (2 : Int32)), .val (.int (f1 p1)), .val (.int (f1 p2)), .val (.int (f1 p3)), .val (.int (f1 p4)), .unset, .unset, .unset] [(.ref b221)])) t → Steps p.tables e below (s₁.setTop (entryFrame m #[(.int p0), (.int p1), (.int p2), (.int p3), (.int p4)] maxLocals)) t := fun t k => pre225 t (st226 t k)
    have pre231 : ∀ t, Steps p.tables e below (T226.setTop (mkF m 69 #[.val (.int p0), .val (.int p1), .val (.int p2), .val (.int p3), .val (.int p4), .val (.int (2 : Int32)), .val (.int (f1 p1)), .val (.int (f1 p2)), .val (.int (f1 p3)), .val (.int (f1 p4)), .unset, .unset, .unset] [(.int (f1 p2)), (.int (1 : Int32)), (.ref b221), (.ref b221)])) t → Steps p.tables e below (s₁.setTop (entryFrame m #[(.int p0), (.int p1), (.int p2), (.int p3), (.int p4)] maxLocals)) t := by
      intro t k
      refine pre230 t ?_
      show Steps p.tables e below (T226.setTop (mkF m 65 #[.val (.int p0), .val (.int p1), .val (.int p2), .val (.int p3), .val (.int p4), .val (.int (2 : Int32)), .val (.int (f1 p1)), .val (.int (f1 p2)), .val (.int (f1 p3)), .val (.int (f1 p4)), .unset, .unset, .unset] [(.ref b221)])) _
      refine XS.dup X226.here hx rfl (hb hby at_65) rfl rfl ?_
      refine XS.iconst X226.here hx rfl (hb hby at_66) ?_
      refine XS.iload X226.here hx rfl (hb hby at_67) rfl ?_
      exact k
    obtain ⟨cl232, Ar232, q232, S232, M232, H232, G232⟩ := id V226
    have hin232 : ¬ ((1 : Int32) < 0 ∨ cl232.slots.size ≤ ((1 : Int32)).toNatClampNeg) := inb_of S232 ⟨by decide, by decide⟩
    obtain ⟨T232, h232, X232, e232, W232, st232⟩ := stC X226 hx hZ e226 Ar232 (j := (1 : Int32)) hin232 (g := (mkF m 69 #[.val (.int p0), .val (.int p1), .val (.int p2), .val (.int p3), .val (.int p4), .val (.int (2 : Int32)), .val (.int (f1 p1)), .val (.int (f1 p2)), .val (.int (f1 p3)), .val (.int (f1 p4)), .unset, .unset, .unset] [(.int (f1 p2)), (.int (1 : Int32)), (.ref b221), (.ref b221)])) rfl rfl (hb hby at_69)
    have Z232 : n0 ≤ h232.size := Nat.le_trans Z226 (Keep.of_wr W232).1
    have K232 : Keep h0 h232 [] := K226.wr W232 (Or.inr sz_b221)
    have N232 := Fr.snoc X232 N226 g_b221
    have Sf233 : Sta Z h232 "java/lang/String" "COMPACT_STRINGS" "Z" (.int gc1) := (Sf227).wr W232
    have Sf234 : Sta Z h232 "jdk/internal/util/Preconditions" "SIOOBE_FORMATTER" "Ljava/util/function/BiFunction;" gf3 := (Sf228).wr W232
    have Ef235 : Exa Z h232 b221 "[C" := (Ef229).wr W232
    have V232 : Arv Z h232 b221 k221 .char (2 : Int32) [(.int (nar .char (f1 p1))), (.int (nar .char (f1 p2)))] (.int (0 : Int32)) := Arv.set Ar232 q232 S232 M232 H232 G232 (fits_nar_char _) W232 1 rfl (Nat.le_of_ble_eq_true rfl)
    have pre236 : ∀ t, Steps p.tables e below (T232.setTop (mkF m 70 #[.val (.int p0), .val (.int p1), .val (.int p2), .val (.int p3), .val (.int p4), .val (.int (2 : Int32)), .val (.int (f1 p1)), .val (.int (f1 p2)), .val (.int (f1 p3)), .val (.int (f1 p4)), .unset, .unset, .unset] [(.ref b221)])) t → Steps p.tables e below (s₁.setTop (entryFrame m #[(.int p0), (.int p1), (.int p2), (.int p3), (.int p4)] maxLocals)) t := fun t k => pre231 t (st232 t k)
    have pre237 : ∀ t, Steps p.tables e below (T232.setTop (mkF m 129 #[.val (.int p0), .val (.int p1), .val (.int p2), .val (.int p3), .val (.int p4), .val (.int (2 : Int32)), .val (.int (f1 p1)), .val (.int (f1 p2)), .val (.int (f1 p3)), .val (.int (f1 p4)), .val (.ref b221), .unset, .unset] [])) t → Steps p.tables e below (s₁.setTop (entryFrame m #[(.int p0), (.int p1), (.int p2), (.int p3), (.int p4)] maxLocals)) t := by
      intro t k
      refine pre236 t ?_
      show Steps p.tables e below (T232.setTop (mkF m 70 #[.val (.int p0), .val (.int p1), .val (.int p2), .val (.int p3), .val (.int p4), .val (.int (2 : Int32)), .val (.int (f1 p1)), .val (.int (f1 p2)), .val (.int (f1 p3)), .val (.int (f1 p4)), .unset, .unset, .unset] [(.ref b221)])) _
      refine XS.astore X232.here hx rfl (hb hby at_70) rfl rfl (l' := #[.val (.int p0), .val (.int p1), .val (.int p2), .val (.int p3), .val (.int p4), .val (.int (2 : Int32)), .val (.int (f1 p1)), .val (.int (f1 p2)), .val (.int (f1 p3)), .val (.int (f1 p4)), .val (.ref b221), .unset, .unset]) rfl ?_
      refine XS.goto X232.here hx rfl (pc0 := 72) (pc' := 129) rfl (hb hby at_72) (by decide) (by decide) ?_
      exact k
    obtain ⟨T238, h238, X238, e238, E238, A238, D238, -, st238⟩ := newO X232 hx hZ hown (hw _ (List.mem_of_getElem? (i := 6) rfl)) (hw _ (List.mem_of_getElem? (i := 7) rfl)) (hw _ (List.mem_of_getElem? (i := 8) rfl)) e232 (g := (mkF m 129 #[.val (.int p0), .val (.int p1), .val (.int p2), .val (.int p3), .val (.int p4), .val (.int (2 : Int32)), .val (.int (f1 p1)), .val (.int (f1 p2)), .val (.int (f1 p3)), .val (.int (f1 p4)), .val (.ref b221), .unset, .unset] [])) rfl (hb hby at_129) (by decide) (by decide)
    obtain ⟨b238, g238⟩ : ∃ z, z = h232.size := ⟨_, rfl⟩
    rw [← g238] at A238 D238 st238
    have ne_b221_b238 : b221 ≠ b238 := Nat.ne_of_lt (Nat.lt_of_lt_of_le (Ef235).lt (Nat.le_of_eq g238.symm))
    have g_b238 : n0 ≤ b238 := Nat.le_trans Z232 (Nat.le_of_eq g238.symm)
    have sz_b238 : h0.size ≤ b238 := Nat.le_trans K232.1 (Nat.le_of_eq g238.symm)
    have Z238 : n0 ≤ h238.size := Nat.le_trans Z232 E238.1
    have K238 : Keep h0 h238 [] := K232.ext E238
    have Sf239 : Sta Z h238 "java/lang/String" "COMPACT_STRINGS" "Z" (.int gc1) := (Sf233).ext E238
    have Sf240 : Sta Z h238 "jdk/internal/util/Preconditions" "SIOOBE_FORMATTER" "Ljava/util/function/BiFunction;" gf3 := (Sf234).ext E238
    have Ef241 : Exa Z h238 b221 "[C" := (Ef235).ext E238
    have Vf242 : Arv Z h238 b221 k221 .char (2 : Int32) [(.int (nar .char (f1 p1))), (.int (nar .char (f1 p2)))] (.int (0 : Int32)) := (V232).ext E238
    have Fcoder_b238 : Fld Z h238 b238 "java/lang/String" "coder" "B" (.int (0 : Int32)) := D238 (Or.inr (hw _ (List.mem_of_getElem? (i := 32) rfl))) (ty := .byte) (by decide)
    have Fvalue_b238 : Fld Z h238 b238 "java/lang/String" "value" "[B" .null := D238 (Or.inr (hw _ (List.mem_of_getElem? (i := 34) rfl))) (ty := (.array .byte)) (by decide)
    have pre243 : ∀ t, Steps p.tables e below (T238.setTop (mkF m 132 #[.val (.int p0), .val (.int p1), .val (.int p2), .val (.int p3), .val (.int p4), .val (.int (2 : Int32)), .val (.int (f1 p1)), .val (.int (f1 p2)), .val (.int (f1 p3)), .val (.int (f1 p4)), .val (.ref b221), .unset, .unset] [(.ref b238)])) t → Steps p.tables e below (s₁.setTop (entryFrame m #[(.int p0), (.int p1), (.int p2), (.int p3), (.int p4)] maxLocals)) t := fun t k => pre237 t (st238 t k)
    have pre244 : ∀ t, Steps p.tables e below (T238.setTop (mkF m 135 #[.val (.int p0), .val (.int p1), .val (.int p2), .val (.int p3), .val (.int p4), .val (.int (2 : Int32)), .val (.int (f1 p1)), .val (.int (f1 p2)), .val (.int (f1 p3)), .val (.int (f1 p4)), .val (.ref b221), .unset, .unset] [(.ref b221), (.ref b238), (.ref b238)])) t → Steps p.tables e below (s₁.setTop (entryFrame m #[(.int p0), (.int p1), (.int p2), (.int p3), (.int p4)] maxLocals)) t := by
      intro t k
      refine pre243 t ?_
      show Steps p.tables e below (T238.setTop (mkF m 132 #[.val (.int p0), .val (.int p1), .val (.int p2), .val (.int p3), .val (.int p4), .val (.int (2 : Int32)), .val (.int (f1 p1)), .val (.int (f1 p2)), .val (.int (f1 p3)), .val (.int (f1 p4)), .val (.ref b221), .unset, .unset] [(.ref b238)])) _
      refine XS.dup X238.here hx rfl (hb hby at_132) rfl rfl ?_
      refine XS.aload X238.here hx rfl (hb hby at_133) rfl rfl ?_
      exact k
    have hp246 : ∀ c ∈ ([(nar .char (f1 p1)), (nar .char (f1 p2))] : List Int32), ¬ c < 0 ∧ ¬ (255 : Int32) < c := own_hp2 p1 p2
    obtain ⟨_, _, ⟨T245, L245, k245, n245⟩, -, X245, ⟨Lc245, hQ245, l245, y245, z245⟩, st245⟩ := X238.specialBack hx (y := (⟨"java/lang/String", "<init>", "([C)V"⟩ : MethodName)) rfl hown (mvT hZ (hw _ (List.mem_of_getElem? (i := 9) rfl))) (mvT hZ (hw _ (List.mem_of_getElem? (i := 10) rfl))) (mvT hZ (hw _ (List.mem_of_getElem? (i := 11) rfl))) (by decide) (StrChars.Road.backV (W := 1) hZ (own_words hw) (kI := 4) (hw _ (List.mem_of_getElem? (i := 7) rfl)) (cs := ([(nar .char (f1 p1)), (nar .char (f1 p2))] : List Int32)) (bs := (([(nar .char (f1 p1)), (nar .char (f1 p2))] : List Int32)).map (fun c => c.toInt8.toInt32)) (n := 2) g_b238 Z238 A238 Fvalue_b238 Fcoder_b238 Vf242 Sf239 P5 rfl rfl (by decide) (by decide) hp246 rfl (by decide) (by decide)) (g := (mkF m 135 #[.val (.int p0), .val (.int p1), .val (.int p2), .val (.int p3), .val (.int p4), .val (.int (2 : Int32)), .val (.int (f1 p1)), .val (.int (f1 p2)), .val (.int (f1 p3)), .val (.int (f1 p4)), .val (.ref b221), .unset, .unset] [(.ref b221), (.ref b238), (.ref b238)])) rfl (by rw [hml]; rfl) (Steps.refl _) (a := b238) (argsL := [(.ref b221)]) (rest := [(.ref b238)]) (lenOf pd_3 rfl) rfl (by show 2 * 0 + _ ≤ _; exact Nat.le_of_eq rfl) (hb hby at_135) (fun _ _ => ⟨rfl, e238, (by decide : 2 + 1 ≤ _), (by decide : 6 + 2 ≤ _)⟩)
    dsimp only [Pt.U, Pt.locs, Pt.cells, Pt.slots] at X245 l245 y245 z245 st245 hQ245
    subst l245 y245 z245
    obtain ⟨h245, e245⟩ : ∃ h, T245.heap = h := ⟨_, rfl⟩
    rw [e245] at hQ245
    obtain ⟨rfl, N245q, K245q, QE245, QC245, t245, kt245, g_t245, y_t245, ne245, QV245, QB245⟩ := hQ245
    have N245 := Fr.app N232 N245q
    have ne_b221_t245 : b221 ≠ t245 := Nat.ne_of_lt (Nat.lt_of_lt_of_le (Ef241).lt y_t245)
    have ne_b238_t245 : b238 ≠ t245 := Nat.ne_of_lt (Nat.lt_of_lt_of_le (A238).lt y_t245)
    have sz_t245 : h0.size ≤ t245 := Nat.le_trans K238.1 y_t245
    have Z245 : n0 ≤ h245.size := Nat.le_trans Z238 K245q.1
    have K245 : Keep h0 h245 [] := K238.trans K245q (fun x hx => by cases List.mem_singleton.mp hx; exact Or.inr sz_b238)
    have Sf247 : Sta Z h245 "java/lang/String" "COMPACT_STRINGS" "Z" (.int gc1) := own_sta_keep Sf239 K245q (own_ns1 (own_ns_exa A238))
    have Sf248 : Sta Z h245 "jdk/internal/util/Preconditions" "SIOOBE_FORMATTER" "Ljava/util/function/BiFunction;" gf3 := own_sta_keep Sf240 K245q (own_ns1 (own_ns_exa A238))
    have Ef249 : Exa Z h245 b221 "[C" := (Ef241).keep K245q
    have Vf250 : Arv Z h245 b221 k221 .char (2 : Int32) [(.int (nar .char (f1 p1))), (.int (nar .char (f1 p2)))] (.int (0 : Int32)) := (Vf242).keep K245q (fun q => absurd (List.mem_singleton.mp q) ne_b221_b238)
    have hcd245 : StrChars.Road.CodA ([(nar .char (f1 p1)), (nar .char (f1 p2))] : List Int32) 0 (2 : Int32) ((([(nar .char (f1 p1)), (nar .char (f1 p2))] : List Int32).map (fun c => c.toInt8.toInt32)).map Value.int) := StrChars.Road.codOf (n := 2) rfl (fun x hx => (hp246 x hx).2)
    have hbd245 := own_up _ hp246
    have pre251 : ∀ t, Steps p.tables e below (T245.setTop (mkF m 138 #[.val (.int p0), .val (.int p1), .val (.int p2), .val (.int p3), .val (.int p4), .val (.int (2 : Int32)), .val (.int (f1 p1)), .val (.int (f1 p2)), .val (.int (f1 p3)), .val (.int (f1 p4)), .val (.ref b221), .unset, .unset] [(.ref b238)])) t → Steps p.tables e below (s₁.setTop (entryFrame m #[(.int p0), (.int p1), (.int p2), (.int p3), (.int p4)] maxLocals)) t := fun t k => pre244 t (st245.trans k)
    have pre252 : ∀ t, Steps p.tables e below (T245.setTop (mkF m 142 #[.val (.int p0), .val (.int p1), .val (.int p2), .val (.int p3), .val (.int p4), .val (.int (2 : Int32)), .val (.int (f1 p1)), .val (.int (f1 p2)), .val (.int (f1 p3)), .val (.int (f1 p4)), .val (.ref b221), .val (.ref b238), .unset] [(.ref b238)])) t → Steps p.tables e below (s₁.setTop (entryFrame m #[(.int p0), (.int p1), (.int p2), (.int p3), (.int p4)] maxLocals)) t := by
      intro t k
      refine pre251 t ?_
      show Steps p.tables e below (T245.setTop (mkF m 138 #[.val (.int p0), .val (.int p1), .val (.int p2), .val (.int p3), .val (.int p4), .val (.int (2 : Int32)), .val (.int (f1 p1)), .val (.int (f1 p2)), .val (.int (f1 p3)), .val (.int (f1 p4)), .val (.ref b221), .unset, .unset] [(.ref b238)])) _
      refine XS.astore X245.here hx rfl (hb hby at_138) rfl rfl (l' := #[.val (.int p0), .val (.int p1), .val (.int p2), .val (.int p3), .val (.int p4), .val (.int (2 : Int32)), .val (.int (f1 p1)), .val (.int (f1 p2)), .val (.int (f1 p3)), .val (.int (f1 p4)), .val (.ref b221), .val (.ref b238), .unset]) rfl ?_
      refine XS.aload X245.here hx rfl (hb hby at_140) rfl rfl ?_
      exact k
    obtain ⟨_, _, ⟨T253, L253, k253, n253⟩, -, X253, ⟨Lc253, hQ253, l253, y253, z253⟩, st253⟩ := Jvm.LawKit.callS X245 hx (y := (⟨"com/example/loomfilter/loomfilter/core/Layout", "checkName", "(Ljava/lang/String;)Ljava/lang/String;"⟩ : MethodName)) hown (mvT hZ (hw _ (List.mem_of_getElem? (i := 35) rfl))) (mvT hZ (hw _ (List.mem_of_getElem? (i := 36) rfl))) (mvT hZ (hw _ (List.mem_of_getElem? (i := 37) rfl))) (mvT hZ (hw _ (List.mem_of_getElem? (i := 38) rfl))) (by decide) (backOf (W := 0) (rm8 l Z ar0 hw [] b238 ([(nar .char (f1 p1)), (nar .char (f1 p2))]) (2 : Int32) gc1 gf3 t245 kt245 h245 n0 Z245 P5 rG3 hcd245 hbd245 (Nat.le_of_ble_eq_true rfl) (own_hok2 p1 p2) (Nat.le_of_ble_eq_true rfl) (Nat.le_of_ble_eq_true rfl) Sf247 Sf248 QE245 QV245 QC245 QB245) hZ (hw _ (List.mem_of_getElem? (i := 38) rfl)) (hw _ (List.mem_of_getElem? (i := 37) rfl)) (by decide) (by decide)) (g := (mkF m 142 #[.val (.int p0), .val (.int p1), .val (.int p2), .val (.int p3), .val (.int p4), .val (.int (2 : Int32)), .val (.int (f1 p1)), .val (.int (f1 p2)), .val (.int (f1 p3)), .val (.int (f1 p4)), .val (.ref b221), .val (.ref b238), .unset] [(.ref b238)])) rfl (by rw [hml]; rfl) (argsL := [(.ref b238)]) (rest := []) (lenOf pd_4 rfl) rfl (by show 2 * 0 + _ ≤ _; exact Nat.le_of_eq rfl) (hb hby at_142) (fun _ _ => ⟨rfl, e245, (by decide : 3 + 0 ≤ _), (by decide : 8 + 0 ≤ _)⟩)
    dsimp only [Pt.U, Pt.locs, Pt.cells, Pt.slots] at X253 l253 y253 z253 st253 hQ253
    subst l253 y253 z253
    obtain ⟨rfl, N253q, e253⟩ := hQ253
    have N253 := Fr.app N245 N253q
    have pre254 : ∀ t, Steps p.tables e below (T253.setTop (mkF m 145 #[.val (.int p0), .val (.int p1), .val (.int p2), .val (.int p3), .val (.int p4), .val (.int (2 : Int32)), .val (.int (f1 p1)), .val (.int (f1 p2)), .val (.int (f1 p3)), .val (.int (f1 p4)), .val (.ref b221), .val (.ref b238), .unset] [(.ref b238)])) t → Steps p.tables e below (s₁.setTop (entryFrame m #[(.int p0), (.int p1), (.int p2), (.int p3), (.int p4)] maxLocals)) t := fun t k => pre252 t (st253 t k)
    have pre255 : ∀ t, Steps p.tables e below (T253.setTop (mkF m 156 #[.val (.int p0), .val (.int p1), .val (.int p2), .val (.int p3), .val (.int p4), .val (.int (2 : Int32)), .val (.int (f1 p1)), .val (.int (f1 p2)), .val (.int (f1 p3)), .val (.int (f1 p4)), .val (.ref b221), .val (.ref b238), .val (.ref b238)] [(.ref b238)])) t → Steps p.tables e below (s₁.setTop (entryFrame m #[(.int p0), (.int p1), (.int p2), (.int p3), (.int p4)] maxLocals)) t := by
      intro t k
      refine pre254 t ?_
      show Steps p.tables e below (T253.setTop (mkF m 145 #[.val (.int p0), .val (.int p1), .val (.int p2), .val (.int p3), .val (.int p4), .val (.int (2 : Int32)), .val (.int (f1 p1)), .val (.int (f1 p2)), .val (.int (f1 p3)), .val (.int (f1 p4)), .val (.ref b221), .val (.ref b238), .unset] [(.ref b238)])) _
      refine XS.astore X253.here hx rfl (hb hby at_145) rfl rfl (l' := #[.val (.int p0), .val (.int p1), .val (.int p2), .val (.int p3), .val (.int p4), .val (.int (2 : Int32)), .val (.int (f1 p1)), .val (.int (f1 p2)), .val (.int (f1 p3)), .val (.int (f1 p4)), .val (.ref b221), .val (.ref b238), .val (.ref b238)]) rfl ?_
      refine XS.aload X253.here hx rfl (hb hby at_147) rfl rfl ?_
      refine XS.aload X253.here hx rfl (hb hby at_149) rfl rfl ?_
      refine Jvm.RoadKit.acmp (g := (mkF m 151 #[.val (.int p0), .val (.int p1), .val (.int p2), .val (.int p3), .val (.int p4), .val (.int (2 : Int32)), .val (.int (f1 p1)), .val (.int (f1 p2)), .val (.int (f1 p3)), .val (.int (f1 p4)), .val (.ref b221), .val (.ref b238), .val (.ref b238)] [(.ref b238), (.ref b238)])) X253 hx rfl rfl rfl (pc0 := 151) (pc' := 154) (same := true) rfl (hb hby at_151) rfl (decide_eq_true rfl) (by decide) (by decide) ?_
      refine XS.aload X253.here hx rfl (hb hby at_154) rfl rfl ?_
      exact k
    obtain ⟨cq256, kq256, q256a, q256b, q256c⟩ := isOf hZ e253 QE245
    obtain ⟨_, _, ⟨T256, L256, k256, n256⟩, -, X256, ⟨Lc256, hQ256, l256, y256, z256⟩, st256⟩ := X253.virtualBack hx (y := (⟨"java/lang/String", "length", "()I"⟩ : MethodName)) (z := (⟨"java/lang/String", "length", "()I"⟩ : MethodName)) hown (mvT hZ (hw _ (List.mem_of_getElem? (i := 76) rfl))) (mvT hZ (hw _ (List.mem_of_getElem? (i := 45) rfl))) (notFace_of_selects (args := #[]) (mvT hZ (hw _ (List.mem_of_getElem? (i := 47) rfl)))) (mvT hZ (hw _ (List.mem_of_getElem? (i := 47) rfl))) (mvT hZ (hw _ (List.mem_of_getElem? (i := 46) rfl))) (by decide) (StrChars.Road.lenW (W := 0) hZ (own_wordsLen hw) (kI := 4) (hw _ (List.mem_of_getElem? (i := 7) rfl)) QE245 QV245 QC245 QB245 hcd245 hbd245 Sf247 P5 (Nat.le_of_ble_eq_true rfl) (by decide) (by decide)) q256a q256c (g := (mkF m 156 #[.val (.int p0), .val (.int p1), .val (.int p2), .val (.int p3), .val (.int p4), .val (.int (2 : Int32)), .val (.int (f1 p1)), .val (.int (f1 p2)), .val (.int (f1 p3)), .val (.int (f1 p4)), .val (.ref b221), .val (.ref b238), .val (.ref b238)] [(.ref b238)])) rfl (by rw [hml]; rfl) (Steps.refl _) (argsL := []) (rest := []) (lenOf pd_0 rfl) rfl (by show 2 * 0 + _ ≤ _; exact Nat.le_of_eq rfl) (hb hby at_156) (fun _ _ => ⟨rfl, e253, (by decide : 3 + 0 ≤ _), (by decide : 8 + 0 ≤ _)⟩)
    dsimp only [Pt.U, Pt.locs, Pt.cells, Pt.slots] at X256 l256 y256 z256 st256 hQ256
    subst l256 y256 z256
    obtain ⟨rfl, rfl, e256⟩ := hQ256
    try rw [List.append_nil] at X256
    have pre257 : ∀ t, Steps p.tables e below (T256.setTop (mkF m 159 #[.val (.int p0), .val (.int p1), .val (.int p2), .val (.int p3), .val (.int p4), .val (.int (2 : Int32)), .val (.int (f1 p1)), .val (.int (f1 p2)), .val (.int (f1 p3)), .val (.int (f1 p4)), .val (.ref b221), .val (.ref b238), .val (.ref b238)] [(.int (2 : Int32))])) t → Steps p.tables e below (s₁.setTop (entryFrame m #[(.int p0), (.int p1), (.int p2), (.int p3), (.int p4)] maxLocals)) t := fun t k => pre255 t (st256.trans k)
    have pre258 : ∀ t, Steps p.tables e below (T256.setTop (mkF m 167 #[.val (.int p0), .val (.int p1), .val (.int p2), .val (.int p3), .val (.int p4), .val (.int (2 : Int32)), .val (.int (f1 p1)), .val (.int (f1 p2)), .val (.int (f1 p3)), .val (.int (f1 p4)), .val (.ref b221), .val (.ref b238), .val (.ref b238)] [(.int (0 : Int32)), (.ref b238)])) t → Steps p.tables e below (s₁.setTop (entryFrame m #[(.int p0), (.int p1), (.int p2), (.int p3), (.int p4)] maxLocals)) t := by
      intro t k
      refine pre257 t ?_
      show Steps p.tables e below (T256.setTop (mkF m 159 #[.val (.int p0), .val (.int p1), .val (.int p2), .val (.int p3), .val (.int p4), .val (.int (2 : Int32)), .val (.int (f1 p1)), .val (.int (f1 p2)), .val (.int (f1 p3)), .val (.int (f1 p4)), .val (.ref b221), .val (.ref b238), .val (.ref b238)] [(.int (2 : Int32))])) _
      refine XS.iload X256.here hx rfl (hb hby at_159) rfl ?_
      refine XS.icmpNo X256.here hx rfl (hb hby at_161) rfl (teq (by decide : (2 : Int32) = (2 : Int32))).2 ?_
      refine XS.aload X256.here hx rfl (hb hby at_164) rfl rfl ?_
      refine XS.iconst X256.here hx rfl (hb hby at_166) ?_
      exact k
    obtain ⟨cq259, kq259, q259a, q259b, q259c⟩ := isOf hZ e256 QE245
    obtain ⟨_, _, ⟨T259, L259, k259, n259⟩, -, X259, ⟨Lc259, hQ259, l259, y259, z259⟩, st259⟩ := X256.virtualBack hx (y := (⟨"java/lang/String", "charAt", "(I)C"⟩ : MethodName)) (z := (⟨"java/lang/String", "charAt", "(I)C"⟩ : MethodName)) hown (mvT hZ (hw _ (List.mem_of_getElem? (i := 77) rfl))) (mvT hZ (hw _ (List.mem_of_getElem? (i := 55) rfl))) (notFace_of_selects (args := #[]) (mvT hZ (hw _ (List.mem_of_getElem? (i := 57) rfl)))) (mvT hZ (hw _ (List.mem_of_getElem? (i := 57) rfl))) (mvT hZ (hw _ (List.mem_of_getElem? (i := 56) rfl))) (by decide) (StrChars.Road.chN (W := 0) hZ (own_wordsChN hw) (kI := 4) (hw _ (List.mem_of_getElem? (i := 7) rfl)) QE245 QV245 QC245 QB245 hcd245 hbd245 Sf247 P5 Sf248 rG3 (Nat.le_of_ble_eq_true rfl) (i := 0) (Nat.le_of_ble_eq_true rfl) (j := (0 : Int32)) rfl (by decide) (by decide)) q259a q259c (g := (mkF m 167 #[.val (.int p0), .val (.int p1), .val (.int p2), .val (.int p3), .val (.int p4), .val (.int (2 : Int32)), .val (.int (f1 p1)), .val (.int (f1 p2)), .val (.int (f1 p3)), .val (.int (f1 p4)), .val (.ref b221), .val (.ref b238), .val (.ref b238)] [(.int (0 : Int32)), (.ref b238)])) rfl (by rw [hml]; rfl) (Steps.refl _) (argsL := [(.int (0 : Int32))]) (rest := []) (lenOf pd_1 rfl) rfl (by show 2 * 0 + _ ≤ _; exact Nat.le_of_eq rfl) (hb hby at_167) (fun _ _ => ⟨rfl, e256, (by decide : 3 + 0 ≤ _), (by decide : 8 + 0 ≤ _)⟩)
    dsimp only [Pt.U, Pt.locs, Pt.cells, Pt.slots] at X259 l259 y259 z259 st259 hQ259
    subst l259 y259 z259
    obtain ⟨rfl, rfl, e259⟩ := hQ259
    try rw [List.append_nil] at X259
    have pre260 : ∀ t, Steps p.tables e below (T259.setTop (mkF m 170 #[.val (.int p0), .val (.int p1), .val (.int p2), .val (.int p3), .val (.int p4), .val (.int (2 : Int32)), .val (.int (f1 p1)), .val (.int (f1 p2)), .val (.int (f1 p3)), .val (.int (f1 p4)), .val (.ref b221), .val (.ref b238), .val (.ref b238)] [(.int (nar .char (f1 p1)))])) t → Steps p.tables e below (s₁.setTop (entryFrame m #[(.int p0), (.int p1), (.int p2), (.int p3), (.int p4)] maxLocals)) t := fun t k => pre258 t (st259.trans k)
    have pre261 : ∀ t, Steps p.tables e below (T259.setTop (mkF m 172 #[.val (.int p0), .val (.int p1), .val (.int p2), .val (.int p3), .val (.int p4), .val (.int (2 : Int32)), .val (.int (f1 p1)), .val (.int (f1 p2)), .val (.int (f1 p3)), .val (.int (f1 p4)), .val (.ref b221), .val (.ref b238), .val (.ref b238)] [(.int (f1 p1)), (.int (nar .char (f1 p1)))])) t → Steps p.tables e below (s₁.setTop (entryFrame m #[(.int p0), (.int p1), (.int p2), (.int p3), (.int p4)] maxLocals)) t := by
      intro t k
      refine pre260 t ?_
      show Steps p.tables e below (T259.setTop (mkF m 170 #[.val (.int p0), .val (.int p1), .val (.int p2), .val (.int p3), .val (.int p4), .val (.int (2 : Int32)), .val (.int (f1 p1)), .val (.int (f1 p2)), .val (.int (f1 p3)), .val (.int (f1 p4)), .val (.ref b221), .val (.ref b238), .val (.ref b238)] [(.int (nar .char (f1 p1)))])) _
      refine XS.iload X259.here hx rfl (hb hby at_170) rfl ?_
      exact k
    by_cases hc172_262 : (nar .char (f1 p1)) = (f1 p1)
    · obtain ⟨fs, hr, hrun, hended, hW, hsame⟩ := X259.leave (v := some (.int (1 : Int32))) (fun h => by rw [Bd.returns] at h; cases h)
      refine ⟨_, _, pre261 _ ?_, hrun, hended, _, _, rfl, ?_, ⟨_, rfl⟩, hW, hsame.mono (by decide) (by decide)⟩
      · show Steps p.tables e below (T259.setTop (mkF m 172 #[.val (.int p0), .val (.int p1), .val (.int p2), .val (.int p3), .val (.int p4), .val (.int (2 : Int32)), .val (.int (f1 p1)), .val (.int (f1 p2)), .val (.int (f1 p3)), .val (.int (f1 p4)), .val (.ref b221), .val (.ref b238), .val (.ref b238)] [(.int (f1 p1)), (.int (nar .char (f1 p1)))])) _
        refine XS.icmpNo X259.here hx rfl (hb hby at_172) rfl (teq hc172_262).2 ?_
        refine XS.iconst X259.here hx rfl (hb hby at_175) ?_
        refine XS.goto X259.here hx rfl (pc0 := 176) (pc' := 180) rfl (hb hby at_176) (by decide) (by decide) ?_
        exact retN X259 hx (t := .boolean) Bd.returns (by simp) (hb hby at_180) hr
      · show Q0 Z p0 p1 p2 p3 p4 gc1 gf3 h0 n0 _ T259.heap _
        rw [e259]
        exact ⟨rfl, N253⟩
    · have pre263 : ∀ t, Steps p.tables e below (T259.setTop (mkF m 180 #[.val (.int p0), .val (.int p1), .val (.int p2), .val (.int p3), .val (.int p4), .val (.int (2 : Int32)), .val (.int (f1 p1)), .val (.int (f1 p2)), .val (.int (f1 p3)), .val (.int (f1 p4)), .val (.ref b221), .val (.ref b238), .val (.ref b238)] [(.int (0 : Int32))])) t → Steps p.tables e below (s₁.setTop (entryFrame m #[(.int p0), (.int p1), (.int p2), (.int p3), (.int p4)] maxLocals)) t := by
        intro t k
        refine pre261 t ?_
        show Steps p.tables e below (T259.setTop (mkF m 172 #[.val (.int p0), .val (.int p1), .val (.int p2), .val (.int p3), .val (.int p4), .val (.int (2 : Int32)), .val (.int (f1 p1)), .val (.int (f1 p2)), .val (.int (f1 p3)), .val (.int (f1 p4)), .val (.ref b221), .val (.ref b238), .val (.ref b238)] [(.int (f1 p1)), (.int (nar .char (f1 p1)))])) _
        refine XS.icmpYes X259.here hx rfl (pc0 := 172) (pc' := 179) rfl (hb hby at_172) rfl (feq hc172_262).2 (by decide) (by decide) ?_
        refine XS.iconst X259.here hx rfl (hb hby at_179) ?_
        exact k
      exact (own_leaf2 rG3 P5 hv155 hc172_262).elim
  · have pre264 : ∀ t, Steps p.tables e below (s₁.setTop (mkF m 8 #[.val (.int p0), .val (.int p1), .val (.int p2), .val (.int p3), .val (.int p4), .val (.int (3 : Int32)), .unset, .unset, .unset, .unset, .unset, .unset, .unset] [(.int p1)])) t → Steps p.tables e below (s₁.setTop (entryFrame m #[(.int p0), (.int p1), (.int p2), (.int p3), (.int p4)] maxLocals)) t := by
      intro t k
      refine pre157 t ?_
      show Steps p.tables e below (s₁.setTop (mkF m 7 #[.val (.int p0), .val (.int p1), .val (.int p2), .val (.int p3), .val (.int p4), .val (.int (3 : Int32)), .unset, .unset, .unset, .unset, .unset, .unset, .unset] [])) _
      refine XS.iloadN X0.here hx rfl (hb hby at_7) rfl ?_
      exact k
    obtain ⟨_, _, ⟨T265, L265, k265, n265⟩, -, X265, ⟨Lc265, hQ265, l265, y265, z265⟩, st265⟩ := Jvm.LawKit.callS X0 hx (y := (⟨"com/example/loomfilter/loomfilter/core/LayoutCheckNamePinLaw", "allowed", "(I)C"⟩ : MethodName)) hown (mvT hZ (hw _ (List.mem_of_getElem? (i := 0) rfl))) (mvT hZ (hw _ (List.mem_of_getElem? (i := 1) rfl))) (mvT hZ (hw _ (List.mem_of_getElem? (i := 2) rfl))) (mvT hZ (hw _ (List.mem_of_getElem? (i := 3) rfl))) (by decide) (backOf (W := 0) (rm1 l Z ar0 hw [] p1 h0 n0 Z0) hZ (hw _ (List.mem_of_getElem? (i := 3) rfl)) (hw _ (List.mem_of_getElem? (i := 2) rfl)) (by decide) (by decide)) (g := (mkF m 8 #[.val (.int p0), .val (.int p1), .val (.int p2), .val (.int p3), .val (.int p4), .val (.int (3 : Int32)), .unset, .unset, .unset, .unset, .unset, .unset, .unset] [(.int p1)])) rfl (by rw [hml]; rfl) (argsL := [(.int p1)]) (rest := []) (lenOf pd_1 rfl) rfl (by show 2 * 0 + _ ≤ _; exact Nat.le_of_eq rfl) (hb hby at_8) (fun _ _ => ⟨rfl, e0, (by decide : 0 + 0 ≤ _), (by decide : 0 + 0 ≤ _)⟩)
    dsimp only [Pt.U, Pt.locs, Pt.cells, Pt.slots] at X265 l265 y265 z265 st265 hQ265
    subst l265 y265 z265
    obtain ⟨rfl, N265q, e265⟩ := hQ265
    have N265 := Fr.app N0 N265q
    have pre266 : ∀ t, Steps p.tables e below (T265.setTop (mkF m 11 #[.val (.int p0), .val (.int p1), .val (.int p2), .val (.int p3), .val (.int p4), .val (.int (3 : Int32)), .unset, .unset, .unset, .unset, .unset, .unset, .unset] [(.int (f1 p1))])) t → Steps p.tables e below (s₁.setTop (entryFrame m #[(.int p0), (.int p1), (.int p2), (.int p3), (.int p4)] maxLocals)) t := fun t k => pre264 t (st265 t k)
    have pre267 : ∀ t, Steps p.tables e below (T265.setTop (mkF m 14 #[.val (.int p0), .val (.int p1), .val (.int p2), .val (.int p3), .val (.int p4), .val (.int (3 : Int32)), .val (.int (f1 p1)), .unset, .unset, .unset, .unset, .unset, .unset] [(.int p2)])) t → Steps p.tables e below (s₁.setTop (entryFrame m #[(.int p0), (.int p1), (.int p2), (.int p3), (.int p4)] maxLocals)) t := by
      intro t k
      refine pre266 t ?_
      show Steps p.tables e below (T265.setTop (mkF m 11 #[.val (.int p0), .val (.int p1), .val (.int p2), .val (.int p3), .val (.int p4), .val (.int (3 : Int32)), .unset, .unset, .unset, .unset, .unset, .unset, .unset] [(.int (f1 p1))])) _
      refine XS.istore X265.here hx rfl (hb hby at_11) rfl (l' := #[.val (.int p0), .val (.int p1), .val (.int p2), .val (.int p3), .val (.int p4), .val (.int (3 : Int32)), .val (.int (f1 p1)), .unset, .unset, .unset, .unset, .unset, .unset]) rfl ?_
      refine XS.iloadN X265.here hx rfl (hb hby at_13) rfl ?_
      exact k
    obtain ⟨_, _, ⟨T268, L268, k268, n268⟩, -, X268, ⟨Lc268, hQ268, l268, y268, z268⟩, st268⟩ := Jvm.LawKit.callS X265 hx (y := (⟨"com/example/loomfilter/loomfilter/core/LayoutCheckNamePinLaw", "allowed", "(I)C"⟩ : MethodName)) hown (mvT hZ (hw _ (List.mem_of_getElem? (i := 0) rfl))) (mvT hZ (hw _ (List.mem_of_getElem? (i := 1) rfl))) (mvT hZ (hw _ (List.mem_of_getElem? (i := 2) rfl))) (mvT hZ (hw _ (List.mem_of_getElem? (i := 3) rfl))) (by decide) (backOf (W := 0) (rm1 l Z ar0 hw [] p2 h0 n0 Z0) hZ (hw _ (List.mem_of_getElem? (i := 3) rfl)) (hw _ (List.mem_of_getElem? (i := 2) rfl)) (by decide) (by decide)) (g := (mkF m 14 #[.val (.int p0), .val (.int p1), .val (.int p2), .val (.int p3), .val (.int p4), .val (.int (3 : Int32)), .val (.int (f1 p1)), .unset, .unset, .unset, .unset, .unset, .unset] [(.int p2)])) rfl (by rw [hml]; rfl) (argsL := [(.int p2)]) (rest := []) (lenOf pd_1 rfl) rfl (by show 2 * 0 + _ ≤ _; exact Nat.le_of_eq rfl) (hb hby at_14) (fun _ _ => ⟨rfl, e265, (by decide : 0 + 0 ≤ _), (by decide : 0 + 0 ≤ _)⟩)
    dsimp only [Pt.U, Pt.locs, Pt.cells, Pt.slots] at X268 l268 y268 z268 st268 hQ268
    subst l268 y268 z268
    obtain ⟨rfl, N268q, e268⟩ := hQ268
    have N268 := Fr.app N265 N268q
    have pre269 : ∀ t, Steps p.tables e below (T268.setTop (mkF m 17 #[.val (.int p0), .val (.int p1), .val (.int p2), .val (.int p3), .val (.int p4), .val (.int (3 : Int32)), .val (.int (f1 p1)), .unset, .unset, .unset, .unset, .unset, .unset] [(.int (f1 p2))])) t → Steps p.tables e below (s₁.setTop (entryFrame m #[(.int p0), (.int p1), (.int p2), (.int p3), (.int p4)] maxLocals)) t := fun t k => pre267 t (st268 t k)
    have pre270 : ∀ t, Steps p.tables e below (T268.setTop (mkF m 20 #[.val (.int p0), .val (.int p1), .val (.int p2), .val (.int p3), .val (.int p4), .val (.int (3 : Int32)), .val (.int (f1 p1)), .val (.int (f1 p2)), .unset, .unset, .unset, .unset, .unset] [(.int p3)])) t → Steps p.tables e below (s₁.setTop (entryFrame m #[(.int p0), (.int p1), (.int p2), (.int p3), (.int p4)] maxLocals)) t := by
      intro t k
      refine pre269 t ?_
      show Steps p.tables e below (T268.setTop (mkF m 17 #[.val (.int p0), .val (.int p1), .val (.int p2), .val (.int p3), .val (.int p4), .val (.int (3 : Int32)), .val (.int (f1 p1)), .unset, .unset, .unset, .unset, .unset, .unset] [(.int (f1 p2))])) _
      refine XS.istore X268.here hx rfl (hb hby at_17) rfl (l' := #[.val (.int p0), .val (.int p1), .val (.int p2), .val (.int p3), .val (.int p4), .val (.int (3 : Int32)), .val (.int (f1 p1)), .val (.int (f1 p2)), .unset, .unset, .unset, .unset, .unset]) rfl ?_
      refine XS.iloadN X268.here hx rfl (hb hby at_19) rfl ?_
      exact k
    obtain ⟨_, _, ⟨T271, L271, k271, n271⟩, -, X271, ⟨Lc271, hQ271, l271, y271, z271⟩, st271⟩ := Jvm.LawKit.callS X268 hx (y := (⟨"com/example/loomfilter/loomfilter/core/LayoutCheckNamePinLaw", "allowed", "(I)C"⟩ : MethodName)) hown (mvT hZ (hw _ (List.mem_of_getElem? (i := 0) rfl))) (mvT hZ (hw _ (List.mem_of_getElem? (i := 1) rfl))) (mvT hZ (hw _ (List.mem_of_getElem? (i := 2) rfl))) (mvT hZ (hw _ (List.mem_of_getElem? (i := 3) rfl))) (by decide) (backOf (W := 0) (rm1 l Z ar0 hw [] p3 h0 n0 Z0) hZ (hw _ (List.mem_of_getElem? (i := 3) rfl)) (hw _ (List.mem_of_getElem? (i := 2) rfl)) (by decide) (by decide)) (g := (mkF m 20 #[.val (.int p0), .val (.int p1), .val (.int p2), .val (.int p3), .val (.int p4), .val (.int (3 : Int32)), .val (.int (f1 p1)), .val (.int (f1 p2)), .unset, .unset, .unset, .unset, .unset] [(.int p3)])) rfl (by rw [hml]; rfl) (argsL := [(.int p3)]) (rest := []) (lenOf pd_1 rfl) rfl (by show 2 * 0 + _ ≤ _; exact Nat.le_of_eq rfl) (hb hby at_20) (fun _ _ => ⟨rfl, e268, (by decide : 0 + 0 ≤ _), (by decide : 0 + 0 ≤ _)⟩)
    dsimp only [Pt.U, Pt.locs, Pt.cells, Pt.slots] at X271 l271 y271 z271 st271 hQ271
    subst l271 y271 z271
    obtain ⟨rfl, N271q, e271⟩ := hQ271
    have N271 := Fr.app N268 N271q
    have pre272 : ∀ t, Steps p.tables e below (T271.setTop (mkF m 23 #[.val (.int p0), .val (.int p1), .val (.int p2), .val (.int p3), .val (.int p4), .val (.int (3 : Int32)), .val (.int (f1 p1)), .val (.int (f1 p2)), .unset, .unset, .unset, .unset, .unset] [(.int (f1 p3))])) t → Steps p.tables e below (s₁.setTop (entryFrame m #[(.int p0), (.int p1), (.int p2), (.int p3), (.int p4)] maxLocals)) t := fun t k => pre270 t (st271 t k)
    have pre273 : ∀ t, Steps p.tables e below (T271.setTop (mkF m 27 #[.val (.int p0), .val (.int p1), .val (.int p2), .val (.int p3), .val (.int p4), .val (.int (3 : Int32)), .val (.int (f1 p1)), .val (.int (f1 p2)), .val (.int (f1 p3)), .unset, .unset, .unset, .unset] [(.int p4)])) t → Steps p.tables e below (s₁.setTop (entryFrame m #[(.int p0), (.int p1), (.int p2), (.int p3), (.int p4)] maxLocals)) t := by
      intro t k
      refine pre272 t ?_
      show Steps p.tables e below (T271.setTop (mkF m 23 #[.val (.int p0), .val (.int p1), .val (.int p2), .val (.int p3), .val (.int p4), .val (.int (3 : Int32)), .val (.int (f1 p1)), .val (.int (f1 p2)), .unset, .unset, .unset, .unset, .unset] [(.int (f1 p3))])) _
      refine XS.istore X271.here hx rfl (hb hby at_23) rfl (l' := #[.val (.int p0), .val (.int p1), .val (.int p2), .val (.int p3), .val (.int p4), .val (.int (3 : Int32)), .val (.int (f1 p1)), .val (.int (f1 p2)), .val (.int (f1 p3)), .unset, .unset, .unset, .unset]) rfl ?_
      refine XS.iload X271.here hx rfl (hb hby at_25) rfl ?_
      exact k
    obtain ⟨_, _, ⟨T274, L274, k274, n274⟩, -, X274, ⟨Lc274, hQ274, l274, y274, z274⟩, st274⟩ := Jvm.LawKit.callS X271 hx (y := (⟨"com/example/loomfilter/loomfilter/core/LayoutCheckNamePinLaw", "allowed", "(I)C"⟩ : MethodName)) hown (mvT hZ (hw _ (List.mem_of_getElem? (i := 0) rfl))) (mvT hZ (hw _ (List.mem_of_getElem? (i := 1) rfl))) (mvT hZ (hw _ (List.mem_of_getElem? (i := 2) rfl))) (mvT hZ (hw _ (List.mem_of_getElem? (i := 3) rfl))) (by decide) (backOf (W := 0) (rm1 l Z ar0 hw [] p4 h0 n0 Z0) hZ (hw _ (List.mem_of_getElem? (i := 3) rfl)) (hw _ (List.mem_of_getElem? (i := 2) rfl)) (by decide) (by decide)) (g := (mkF m 27 #[.val (.int p0), .val (.int p1), .val (.int p2), .val (.int p3), .val (.int p4), .val (.int (3 : Int32)), .val (.int (f1 p1)), .val (.int (f1 p2)), .val (.int (f1 p3)), .unset, .unset, .unset, .unset] [(.int p4)])) rfl (by rw [hml]; rfl) (argsL := [(.int p4)]) (rest := []) (lenOf pd_1 rfl) rfl (by show 2 * 0 + _ ≤ _; exact Nat.le_of_eq rfl) (hb hby at_27) (fun _ _ => ⟨rfl, e271, (by decide : 0 + 0 ≤ _), (by decide : 0 + 0 ≤ _)⟩)
    dsimp only [Pt.U, Pt.locs, Pt.cells, Pt.slots] at X274 l274 y274 z274 st274 hQ274
    subst l274 y274 z274
    obtain ⟨rfl, N274q, e274⟩ := hQ274
    have N274 := Fr.app N271 N274q
    have pre275 : ∀ t, Steps p.tables e below (T274.setTop (mkF m 30 #[.val (.int p0), .val (.int p1), .val (.int p2), .val (.int p3), .val (.int p4), .val (.int (3 : Int32)), .val (.int (f1 p1)), .val (.int (f1 p2)), .val (.int (f1 p3)), .unset, .unset, .unset, .unset] [(.int (f1 p4))])) t → Steps p.tables e below (s₁.setTop (entryFrame m #[(.int p0), (.int p1), (.int p2), (.int p3), (.int p4)] maxLocals)) t := fun t k => pre273 t (st274 t k)
    have pre276 : ∀ t, Steps p.tables e below (T274.setTop (mkF m 82 #[.val (.int p0), .val (.int p1), .val (.int p2), .val (.int p3), .val (.int p4), .val (.int (3 : Int32)), .val (.int (f1 p1)), .val (.int (f1 p2)), .val (.int (f1 p3)), .val (.int (f1 p4)), .unset, .unset, .unset] [(.int (3 : Int32))])) t → Steps p.tables e below (s₁.setTop (entryFrame m #[(.int p0), (.int p1), (.int p2), (.int p3), (.int p4)] maxLocals)) t := by
      intro t k
      refine pre275 t ?_
      show Steps p.tables e below (T274.setTop (mkF m 30 #[.val (.int p0), .val (.int p1), .val (.int p2), .val (.int p3), .val (.int p4), .val (.int (3 : Int32)), .val (.int (f1 p1)), .val (.int (f1 p2)), .val (.int (f1 p3)), .unset, .unset, .unset, .unset] [(.int (f1 p4))])) _
      refine XS.istore X274.here hx rfl (hb hby at_30) rfl (l' := #[.val (.int p0), .val (.int p1), .val (.int p2), .val (.int p3), .val (.int p4), .val (.int (3 : Int32)), .val (.int (f1 p1)), .val (.int (f1 p2)), .val (.int (f1 p3)), .val (.int (f1 p4)), .unset, .unset, .unset]) rfl ?_
      refine XS.iload X274.here hx rfl (hb hby at_32) rfl ?_
      refine XS.iconst X274.here hx rfl (hb hby at_34) ?_
      refine XS.icmpYes X274.here hx rfl (pc0 := 35) (pc' := 51) rfl (hb hby at_35) rfl (feq (by decide : ¬ (3 : Int32) = (1 : Int32))).2 (by decide) (by decide) ?_
      refine XS.iload X274.here hx rfl (hb hby at_51) rfl ?_
      refine XS.iconst X274.here hx rfl (hb hby at_53) ?_
      refine XS.icmpYes X274.here hx rfl (pc0 := 54) (pc' := 75) rfl (hb hby at_54) rfl (feq (by decide : ¬ (3 : Int32) = (2 : Int32))).2 (by decide) (by decide) ?_
      refine XS.iload X274.here hx rfl (hb hby at_75) rfl ?_
      refine XS.iconst X274.here hx rfl (hb hby at_77) ?_
      refine XS.icmpNo X274.here hx rfl (hb hby at_78) rfl (teq (by decide : (3 : Int32) = (3 : Int32))).2 ?_
      refine XS.iconst X274.here hx rfl (hb hby at_81) ?_
      exact k
    obtain ⟨T277, h277, k277, X277, e277, E277, A277, C277, st277⟩ := newPE X274 hx hZ (hw _ (List.mem_of_getElem? (i := 5) rfl)) e274 (g := (mkF m 82 #[.val (.int p0), .val (.int p1), .val (.int p2), .val (.int p3), .val (.int p4), .val (.int (3 : Int32)), .val (.int (f1 p1)), .val (.int (f1 p2)), .val (.int (f1 p3)), .val (.int (f1 p4)), .unset, .unset, .unset] [(.int (3 : Int32))])) rfl (hb hby at_82) rfl (by decide) (cap := 3) (by decide) (by decide) (by decide) (by decide) (ad := "[C") rfl
    obtain ⟨b277, g277⟩ : ∃ z, z = h0.size := ⟨_, rfl⟩
    rw [← g277] at A277 C277 st277
    have g_b277 : n0 ≤ b277 := Nat.le_trans Z0 (Nat.le_of_eq g277.symm)
    have sz_b277 : h0.size ≤ b277 := Nat.le_trans (Keep.refl h0 []).1 (Nat.le_of_eq g277.symm)
    have Z277 : n0 ≤ h277.size := Nat.le_trans Z0 E277.1
    have K277 : Keep h0 h277 [] := (Keep.refl h0 []).ext E277
    have Sf278 : Sta Z h277 "java/lang/String" "COMPACT_STRINGS" "Z" (.int gc1) := (S_COMPACT_STRINGS).ext E277
    have Sf279 : Sta Z h277 "jdk/internal/util/Preconditions" "SIOOBE_FORMATTER" "Ljava/util/function/BiFunction;" gf3 := (S_SIOOBE_FORMATTER).ext E277
    have V_b277 : Arv Z h277 b277 k277 .char (3 : Int32) [(.int (0 : Int32)), (.int (0 : Int32)), (.int (0 : Int32))] (.int (0 : Int32)) := (Arv.new A277 (by decide)).pad (pad_rep [] (.int (0 : Int32)) 3)
    have pre280 : ∀ t, Steps p.tables e below (T277.setTop (mkF m 84 #[.val (.int p0), .val (.int p1), .val (.int p2), .val (.int p3), .val (.int p4), .val (.int (3 : Int32)), .val (.int (f1 p1)), .val (.int (f1 p2)), .val (.int (f1 p3)), .val (.int (f1 p4)), .unset, .unset, .unset] [(.ref b277)])) t → Steps p.tables e below (s₁.setTop (entryFrame m #[(.int p0), (.int p1), (.int p2), (.int p3), (.int p4)] maxLocals)) t := fun t k => pre276 t (st277 t k)
    have pre281 : ∀ t, Steps p.tables e below (T277.setTop (mkF m 88 #[.val (.int p0), .val (.int p1), .val (.int p2), .val (.int p3), .val (.int p4), .val (.int (3 : Int32)), .val (.int (f1 p1)), .val (.int (f1 p2)), .val (.int (f1 p3)), .val (.int (f1 p4)), .unset, .unset, .unset] [(.int (f1 p1)), (.int (0 : Int32)), (.ref b277), (.ref b277)])) t → Steps p.tables e below (s₁.setTop (entryFrame m #[(.int p0), (.int p1), (.int p2), (.int p3), (.int p4)] maxLocals)) t := by
      intro t k
      refine pre280 t ?_
      show Steps p.tables e below (T277.setTop (mkF m 84 #[.val (.int p0), .val (.int p1), .val (.int p2), .val (.int p3), .val (.int p4), .val (.int (3 : Int32)), .val (.int (f1 p1)), .val (.int (f1 p2)), .val (.int (f1 p3)), .val (.int (f1 p4)), .unset, .unset, .unset] [(.ref b277)])) _
      refine XS.dup X277.here hx rfl (hb hby at_84) rfl rfl ?_
      refine XS.iconst X277.here hx rfl (hb hby at_85) ?_
      refine XS.iload X277.here hx rfl (hb hby at_86) rfl ?_
      exact k
    obtain ⟨cl282, Ar282, q282, S282, M282, H282, G282⟩ := id V_b277
    have hin282 : ¬ ((0 : Int32) < 0 ∨ cl282.slots.size ≤ ((0 : Int32)).toNatClampNeg) := inb_of S282 ⟨by decide, by decide⟩
    obtain ⟨T282, h282, X282, e282, W282, st282⟩ := stC X277 hx hZ e277 Ar282 (j := (0 : Int32)) hin282 (g := (mkF m 88 #[.val (.int p0), .val (.int p1), .val (.int p2), .val (.int p3), .val (.int p4), .val (.int (3 : Int32)), .val (.int (f1 p1)), .val (.int (f1 p2)), .val (.int (f1 p3)), .val (.int (f1 p4)), .unset, .unset, .unset] [(.int (f1 p1)), (.int (0 : Int32)), (.ref b277), (.ref b277)])) rfl rfl (hb hby at_88)
    have Z282 : n0 ≤ h282.size := Nat.le_trans Z277 (Keep.of_wr W282).1
    have K282 : Keep h0 h282 [] := K277.wr W282 (Or.inr sz_b277)
    have N282 := Fr.snoc X282 N274 g_b277
    have Sf283 : Sta Z h282 "java/lang/String" "COMPACT_STRINGS" "Z" (.int gc1) := (Sf278).wr W282
    have Sf284 : Sta Z h282 "jdk/internal/util/Preconditions" "SIOOBE_FORMATTER" "Ljava/util/function/BiFunction;" gf3 := (Sf279).wr W282
    have Ef285 : Exa Z h282 b277 "[C" := (C277).wr W282
    have V282 : Arv Z h282 b277 k277 .char (3 : Int32) [(.int (nar .char (f1 p1))), (.int (0 : Int32)), (.int (0 : Int32))] (.int (0 : Int32)) := Arv.set Ar282 q282 S282 M282 H282 G282 (fits_nar_char _) W282 0 rfl (Nat.le_of_ble_eq_true rfl)
    have pre286 : ∀ t, Steps p.tables e below (T282.setTop (mkF m 89 #[.val (.int p0), .val (.int p1), .val (.int p2), .val (.int p3), .val (.int p4), .val (.int (3 : Int32)), .val (.int (f1 p1)), .val (.int (f1 p2)), .val (.int (f1 p3)), .val (.int (f1 p4)), .unset, .unset, .unset] [(.ref b277)])) t → Steps p.tables e below (s₁.setTop (entryFrame m #[(.int p0), (.int p1), (.int p2), (.int p3), (.int p4)] maxLocals)) t := fun t k => pre281 t (st282 t k)
    have pre287 : ∀ t, Steps p.tables e below (T282.setTop (mkF m 93 #[.val (.int p0), .val (.int p1), .val (.int p2), .val (.int p3), .val (.int p4), .val (.int (3 : Int32)), .val (.int (f1 p1)), .val (.int (f1 p2)), .val (.int (f1 p3)), .val (.int (f1 p4)), .unset, .unset, .unset] [(.int (f1 p2)), (.int (1 : Int32)), (.ref b277), (.ref b277)])) t → Steps p.tables e below (s₁.setTop (entryFrame m #[(.int p0), (.int p1), (.int p2), (.int p3), (.int p4)] maxLocals)) t := by
      intro t k
      refine pre286 t ?_
      show Steps p.tables e below (T282.setTop (mkF m 89 #[.val (.int p0), .val (.int p1), .val (.int p2), .val (.int p3), .val (.int p4), .val (.int (3 : Int32)), .val (.int (f1 p1)), .val (.int (f1 p2)), .val (.int (f1 p3)), .val (.int (f1 p4)), .unset, .unset, .unset] [(.ref b277)])) _
      refine XS.dup X282.here hx rfl (hb hby at_89) rfl rfl ?_
      refine XS.iconst X282.here hx rfl (hb hby at_90) ?_
      refine XS.iload X282.here hx rfl (hb hby at_91) rfl ?_
      exact k
    obtain ⟨cl288, Ar288, q288, S288, M288, H288, G288⟩ := id V282
    have hin288 : ¬ ((1 : Int32) < 0 ∨ cl288.slots.size ≤ ((1 : Int32)).toNatClampNeg) := inb_of S288 ⟨by decide, by decide⟩
    obtain ⟨T288, h288, X288, e288, W288, st288⟩ := stC X282 hx hZ e282 Ar288 (j := (1 : Int32)) hin288 (g := (mkF m 93 #[.val (.int p0), .val (.int p1), .val (.int p2), .val (.int p3), .val (.int p4), .val (.int (3 : Int32)), .val (.int (f1 p1)), .val (.int (f1 p2)), .val (.int (f1 p3)), .val (.int (f1 p4)), .unset, .unset, .unset] [(.int (f1 p2)), (.int (1 : Int32)), (.ref b277), (.ref b277)])) rfl rfl (hb hby at_93)
    have Z288 : n0 ≤ h288.size := Nat.le_trans Z282 (Keep.of_wr W288).1
    have K288 : Keep h0 h288 [] := K282.wr W288 (Or.inr sz_b277)
    have N288 := Fr.snoc X288 N282 g_b277
    have Sf289 : Sta Z h288 "java/lang/String" "COMPACT_STRINGS" "Z" (.int gc1) := (Sf283).wr W288
    have Sf290 : Sta Z h288 "jdk/internal/util/Preconditions" "SIOOBE_FORMATTER" "Ljava/util/function/BiFunction;" gf3 := (Sf284).wr W288
    have Ef291 : Exa Z h288 b277 "[C" := (Ef285).wr W288
    have V288 : Arv Z h288 b277 k277 .char (3 : Int32) [(.int (nar .char (f1 p1))), (.int (nar .char (f1 p2))), (.int (0 : Int32))] (.int (0 : Int32)) := Arv.set Ar288 q288 S288 M288 H288 G288 (fits_nar_char _) W288 1 rfl (Nat.le_of_ble_eq_true rfl)
    have pre292 : ∀ t, Steps p.tables e below (T288.setTop (mkF m 94 #[.val (.int p0), .val (.int p1), .val (.int p2), .val (.int p3), .val (.int p4), .val (.int (3 : Int32)), .val (.int (f1 p1)), .val (.int (f1 p2)), .val (.int (f1 p3)), .val (.int (f1 p4)), .unset, .unset, .unset] [(.ref b277)])) t → Steps p.tables e below (s₁.setTop (entryFrame m #[(.int p0), (.int p1), (.int p2), (.int p3), (.int p4)] maxLocals)) t := fun t k => pre287 t (st288 t k)
    have pre293 : ∀ t, Steps p.tables e below (T288.setTop (mkF m 98 #[.val (.int p0), .val (.int p1), .val (.int p2), .val (.int p3), .val (.int p4), .val (.int (3 : Int32)), .val (.int (f1 p1)), .val (.int (f1 p2)), .val (.int (f1 p3)), .val (.int (f1 p4)), .unset, .unset, .unset] [(.int (f1 p3)), (.int (2 : Int32)), (.ref b277), (.ref b277)])) t → Steps p.tables e below (s₁.setTop (entryFrame m #[(.int p0), (.int p1), (.int p2), (.int p3), (.int p4)] maxLocals)) t := by
      intro t k
      refine pre292 t ?_
      show Steps p.tables e below (T288.setTop (mkF m 94 #[.val (.int p0), .val (.int p1), .val (.int p2), .val (.int p3), .val (.int p4), .val (.int (3 : Int32)), .val (.int (f1 p1)), .val (.int (f1 p2)), .val (.int (f1 p3)), .val (.int (f1 p4)), .unset, .unset, .unset] [(.ref b277)])) _
      refine XS.dup X288.here hx rfl (hb hby at_94) rfl rfl ?_
      refine XS.iconst X288.here hx rfl (hb hby at_95) ?_
      refine XS.iload X288.here hx rfl (hb hby at_96) rfl ?_
      exact k
    obtain ⟨cl294, Ar294, q294, S294, M294, H294, G294⟩ := id V288
    have hin294 : ¬ ((2 : Int32) < 0 ∨ cl294.slots.size ≤ ((2 : Int32)).toNatClampNeg) := inb_of S294 ⟨by decide, by decide⟩
    obtain ⟨T294, h294, X294, e294, W294, st294⟩ := stC X288 hx hZ e288 Ar294 (j := (2 : Int32)) hin294 (g := (mkF m 98 #[.val (.int p0), .val (.int p1), .val (.int p2), .val (.int p3), .val (.int p4), .val (.int (3 : Int32)), .val (.int (f1 p1)), .val (.int (f1 p2)), .val (.int (f1 p3)), .val (.int (f1 p4)), .unset, .unset, .unset] [(.int (f1 p3)), (.int (2 : Int32)), (.ref b277), (.ref b277)])) rfl rfl (hb hby at_98)
    have Z294 : n0 ≤ h294.size := Nat.le_trans Z288 (Keep.of_wr W294).1
    have K294 : Keep h0 h294 [] := K288.wr W294 (Or.inr sz_b277)
    have N294 := Fr.snoc X294 N288 g_b277
    have Sf295 : Sta Z h294 "java/lang/String" "COMPACT_STRINGS" "Z" (.int gc1) := (Sf289).wr W294
    have Sf296 : Sta Z h294 "jdk/internal/util/Preconditions" "SIOOBE_FORMATTER" "Ljava/util/function/BiFunction;" gf3 := (Sf290).wr W294
    have Ef297 : Exa Z h294 b277 "[C" := (Ef291).wr W294
    have V294 : Arv Z h294 b277 k277 .char (3 : Int32) [(.int (nar .char (f1 p1))), (.int (nar .char (f1 p2))), (.int (nar .char (f1 p3)))] (.int (0 : Int32)) := Arv.set Ar294 q294 S294 M294 H294 G294 (fits_nar_char _) W294 2 rfl (Nat.le_of_ble_eq_true rfl)
    have pre298 : ∀ t, Steps p.tables e below (T294.setTop (mkF m 99 #[.val (.int p0), .val (.int p1), .val (.int p2), .val (.int p3), .val (.int p4), .val (.int (3 : Int32)), .val (.int (f1 p1)), .val (.int (f1 p2)), .val (.int (f1 p3)), .val (.int (f1 p4)), .unset, .unset, .unset] [(.ref b277)])) t → Steps p.tables e below (s₁.setTop (entryFrame m #[(.int p0), (.int p1), (.int p2), (.int p3), (.int p4)] maxLocals)) t := fun t k => pre293 t (st294 t k)
    have pre299 : ∀ t, Steps p.tables e below (T294.setTop (mkF m 129 #[.val (.int p0), .val (.int p1), .val (.int p2), .val (.int p3), .val (.int p4), .val (.int (3 : Int32)), .val (.int (f1 p1)), .val (.int (f1 p2)), .val (.int (f1 p3)), .val (.int (f1 p4)), .val (.ref b277), .unset, .unset] [])) t → Steps p.tables e below (s₁.setTop (entryFrame m #[(.int p0), (.int p1), (.int p2), (.int p3), (.int p4)] maxLocals)) t := by
      intro t k
      refine pre298 t ?_
      show Steps p.tables e below (T294.setTop (mkF m 99 #[.val (.int p0), .val (.int p1), .val (.int p2), .val (.int p3), .val (.int p4), .val (.int (3 : Int32)), .val (.int (f1 p1)), .val (.int (f1 p2)), .val (.int (f1 p3)), .val (.int (f1 p4)), .unset, .unset, .unset] [(.ref b277)])) _
      refine XS.astore X294.here hx rfl (hb hby at_99) rfl rfl (l' := #[.val (.int p0), .val (.int p1), .val (.int p2), .val (.int p3), .val (.int p4), .val (.int (3 : Int32)), .val (.int (f1 p1)), .val (.int (f1 p2)), .val (.int (f1 p3)), .val (.int (f1 p4)), .val (.ref b277), .unset, .unset]) rfl ?_
      refine XS.goto X294.here hx rfl (pc0 := 101) (pc' := 129) rfl (hb hby at_101) (by decide) (by decide) ?_
      exact k
    obtain ⟨T300, h300, X300, e300, E300, A300, D300, -, st300⟩ := newO X294 hx hZ hown (hw _ (List.mem_of_getElem? (i := 6) rfl)) (hw _ (List.mem_of_getElem? (i := 7) rfl)) (hw _ (List.mem_of_getElem? (i := 8) rfl)) e294 (g := (mkF m 129 #[.val (.int p0), .val (.int p1), .val (.int p2), .val (.int p3), .val (.int p4), .val (.int (3 : Int32)), .val (.int (f1 p1)), .val (.int (f1 p2)), .val (.int (f1 p3)), .val (.int (f1 p4)), .val (.ref b277), .unset, .unset] [])) rfl (hb hby at_129) (by decide) (by decide)
    obtain ⟨b300, g300⟩ : ∃ z, z = h294.size := ⟨_, rfl⟩
    rw [← g300] at A300 D300 st300
    have ne_b277_b300 : b277 ≠ b300 := Nat.ne_of_lt (Nat.lt_of_lt_of_le (Ef297).lt (Nat.le_of_eq g300.symm))
    have g_b300 : n0 ≤ b300 := Nat.le_trans Z294 (Nat.le_of_eq g300.symm)
    have sz_b300 : h0.size ≤ b300 := Nat.le_trans K294.1 (Nat.le_of_eq g300.symm)
    have Z300 : n0 ≤ h300.size := Nat.le_trans Z294 E300.1
    have K300 : Keep h0 h300 [] := K294.ext E300
    have Sf301 : Sta Z h300 "java/lang/String" "COMPACT_STRINGS" "Z" (.int gc1) := (Sf295).ext E300
    have Sf302 : Sta Z h300 "jdk/internal/util/Preconditions" "SIOOBE_FORMATTER" "Ljava/util/function/BiFunction;" gf3 := (Sf296).ext E300
    have Ef303 : Exa Z h300 b277 "[C" := (Ef297).ext E300
    have Vf304 : Arv Z h300 b277 k277 .char (3 : Int32) [(.int (nar .char (f1 p1))), (.int (nar .char (f1 p2))), (.int (nar .char (f1 p3)))] (.int (0 : Int32)) := (V294).ext E300
    have Fcoder_b300 : Fld Z h300 b300 "java/lang/String" "coder" "B" (.int (0 : Int32)) := D300 (Or.inr (hw _ (List.mem_of_getElem? (i := 32) rfl))) (ty := .byte) (by decide)
    have Fvalue_b300 : Fld Z h300 b300 "java/lang/String" "value" "[B" .null := D300 (Or.inr (hw _ (List.mem_of_getElem? (i := 34) rfl))) (ty := (.array .byte)) (by decide)
    have pre305 : ∀ t, Steps p.tables e below (T300.setTop (mkF m 132 #[.val (.int p0), .val (.int p1), .val (.int p2), .val (.int p3), .val (.int p4), .val (.int (3 : Int32)), .val (.int (f1 p1)), .val (.int (f1 p2)), .val (.int (f1 p3)), .val (.int (f1 p4)), .val (.ref b277), .unset, .unset] [(.ref b300)])) t → Steps p.tables e below (s₁.setTop (entryFrame m #[(.int p0), (.int p1), (.int p2), (.int p3), (.int p4)] maxLocals)) t := fun t k => pre299 t (st300 t k)
    have pre306 : ∀ t, Steps p.tables e below (T300.setTop (mkF m 135 #[.val (.int p0), .val (.int p1), .val (.int p2), .val (.int p3), .val (.int p4), .val (.int (3 : Int32)), .val (.int (f1 p1)), .val (.int (f1 p2)), .val (.int (f1 p3)), .val (.int (f1 p4)), .val (.ref b277), .unset, .unset] [(.ref b277), (.ref b300), (.ref b300)])) t → Steps p.tables e below (s₁.setTop (entryFrame m #[(.int p0), (.int p1), (.int p2), (.int p3), (.int p4)] maxLocals)) t := by
      intro t k
      refine pre305 t ?_
      show Steps p.tables e below (T300.setTop (mkF m 132 #[.val (.int p0), .val (.int p1), .val (.int p2), .val (.int p3), .val (.int p4), .val (.int (3 : Int32)), .val (.int (f1 p1)), .val (.int (f1 p2)), .val (.int (f1 p3)), .val (.int (f1 p4)), .val (.ref b277), .unset, .unset] [(.ref b300)])) _
      refine XS.dup X300.here hx rfl (hb hby at_132) rfl rfl ?_
      refine XS.aload X300.here hx rfl (hb hby at_133) rfl rfl ?_
      exact k
    have hp308 : ∀ c ∈ ([(nar .char (f1 p1)), (nar .char (f1 p2)), (nar .char (f1 p3))] : List Int32), ¬ c < 0 ∧ ¬ (255 : Int32) < c := own_hp3 p1 p2 p3
    obtain ⟨_, _, ⟨T307, L307, k307, n307⟩, -, X307, ⟨Lc307, hQ307, l307, y307, z307⟩, st307⟩ := X300.specialBack hx (y := (⟨"java/lang/String", "<init>", "([C)V"⟩ : MethodName)) rfl hown (mvT hZ (hw _ (List.mem_of_getElem? (i := 9) rfl))) (mvT hZ (hw _ (List.mem_of_getElem? (i := 10) rfl))) (mvT hZ (hw _ (List.mem_of_getElem? (i := 11) rfl))) (by decide) (StrChars.Road.backV (W := 1) hZ (own_words hw) (kI := 4) (hw _ (List.mem_of_getElem? (i := 7) rfl)) (cs := ([(nar .char (f1 p1)), (nar .char (f1 p2)), (nar .char (f1 p3))] : List Int32)) (bs := (([(nar .char (f1 p1)), (nar .char (f1 p2)), (nar .char (f1 p3))] : List Int32)).map (fun c => c.toInt8.toInt32)) (n := 3) g_b300 Z300 A300 Fvalue_b300 Fcoder_b300 Vf304 Sf301 P5 rfl rfl (by decide) (by decide) hp308 rfl (by decide) (by decide)) (g := (mkF m 135 #[.val (.int p0), .val (.int p1), .val (.int p2), .val (.int p3), .val (.int p4), .val (.int (3 : Int32)), .val (.int (f1 p1)), .val (.int (f1 p2)), .val (.int (f1 p3)), .val (.int (f1 p4)), .val (.ref b277), .unset, .unset] [(.ref b277), (.ref b300), (.ref b300)])) rfl (by rw [hml]; rfl) (Steps.refl _) (a := b300) (argsL := [(.ref b277)]) (rest := [(.ref b300)]) (lenOf pd_3 rfl) rfl (by show 2 * 0 + _ ≤ _; exact Nat.le_of_eq rfl) (hb hby at_135) (fun _ _ => ⟨rfl, e300, (by decide : 2 + 1 ≤ _), (by decide : 7 + 3 ≤ _)⟩)
    dsimp only [Pt.U, Pt.locs, Pt.cells, Pt.slots] at X307 l307 y307 z307 st307 hQ307
    subst l307 y307 z307
    obtain ⟨h307, e307⟩ : ∃ h, T307.heap = h := ⟨_, rfl⟩
    rw [e307] at hQ307
    obtain ⟨rfl, N307q, K307q, QE307, QC307, t307, kt307, g_t307, y_t307, ne307, QV307, QB307⟩ := hQ307
    have N307 := Fr.app N294 N307q
    have ne_b277_t307 : b277 ≠ t307 := Nat.ne_of_lt (Nat.lt_of_lt_of_le (Ef303).lt y_t307)
    have ne_b300_t307 : b300 ≠ t307 := Nat.ne_of_lt (Nat.lt_of_lt_of_le (A300).lt y_t307)
    have sz_t307 : h0.size ≤ t307 := Nat.le_trans K300.1 y_t307
    have Z307 : n0 ≤ h307.size := Nat.le_trans Z300 K307q.1
    have K307 : Keep h0 h307 [] := K300.trans K307q (fun x hx => by cases List.mem_singleton.mp hx; exact Or.inr sz_b300)
    have Sf309 : Sta Z h307 "java/lang/String" "COMPACT_STRINGS" "Z" (.int gc1) := own_sta_keep Sf301 K307q (own_ns1 (own_ns_exa A300))
    have Sf310 : Sta Z h307 "jdk/internal/util/Preconditions" "SIOOBE_FORMATTER" "Ljava/util/function/BiFunction;" gf3 := own_sta_keep Sf302 K307q (own_ns1 (own_ns_exa A300))
    have Ef311 : Exa Z h307 b277 "[C" := (Ef303).keep K307q
    have Vf312 : Arv Z h307 b277 k277 .char (3 : Int32) [(.int (nar .char (f1 p1))), (.int (nar .char (f1 p2))), (.int (nar .char (f1 p3)))] (.int (0 : Int32)) := (Vf304).keep K307q (fun q => absurd (List.mem_singleton.mp q) ne_b277_b300)
    have hcd307 : StrChars.Road.CodA ([(nar .char (f1 p1)), (nar .char (f1 p2)), (nar .char (f1 p3))] : List Int32) 0 (3 : Int32) ((([(nar .char (f1 p1)), (nar .char (f1 p2)), (nar .char (f1 p3))] : List Int32).map (fun c => c.toInt8.toInt32)).map Value.int) := StrChars.Road.codOf (n := 3) rfl (fun x hx => (hp308 x hx).2)
    have hbd307 := own_up _ hp308
    have pre313 : ∀ t, Steps p.tables e below (T307.setTop (mkF m 138 #[.val (.int p0), .val (.int p1), .val (.int p2), .val (.int p3), .val (.int p4), .val (.int (3 : Int32)), .val (.int (f1 p1)), .val (.int (f1 p2)), .val (.int (f1 p3)), .val (.int (f1 p4)), .val (.ref b277), .unset, .unset] [(.ref b300)])) t → Steps p.tables e below (s₁.setTop (entryFrame m #[(.int p0), (.int p1), (.int p2), (.int p3), (.int p4)] maxLocals)) t := fun t k => pre306 t (st307.trans k)
    have pre314 : ∀ t, Steps p.tables e below (T307.setTop (mkF m 142 #[.val (.int p0), .val (.int p1), .val (.int p2), .val (.int p3), .val (.int p4), .val (.int (3 : Int32)), .val (.int (f1 p1)), .val (.int (f1 p2)), .val (.int (f1 p3)), .val (.int (f1 p4)), .val (.ref b277), .val (.ref b300), .unset] [(.ref b300)])) t → Steps p.tables e below (s₁.setTop (entryFrame m #[(.int p0), (.int p1), (.int p2), (.int p3), (.int p4)] maxLocals)) t := by
      intro t k
      refine pre313 t ?_
      show Steps p.tables e below (T307.setTop (mkF m 138 #[.val (.int p0), .val (.int p1), .val (.int p2), .val (.int p3), .val (.int p4), .val (.int (3 : Int32)), .val (.int (f1 p1)), .val (.int (f1 p2)), .val (.int (f1 p3)), .val (.int (f1 p4)), .val (.ref b277), .unset, .unset] [(.ref b300)])) _
      refine XS.astore X307.here hx rfl (hb hby at_138) rfl rfl (l' := #[.val (.int p0), .val (.int p1), .val (.int p2), .val (.int p3), .val (.int p4), .val (.int (3 : Int32)), .val (.int (f1 p1)), .val (.int (f1 p2)), .val (.int (f1 p3)), .val (.int (f1 p4)), .val (.ref b277), .val (.ref b300), .unset]) rfl ?_
      refine XS.aload X307.here hx rfl (hb hby at_140) rfl rfl ?_
      exact k
    obtain ⟨_, _, ⟨T315, L315, k315, n315⟩, -, X315, ⟨Lc315, hQ315, l315, y315, z315⟩, st315⟩ := Jvm.LawKit.callS X307 hx (y := (⟨"com/example/loomfilter/loomfilter/core/Layout", "checkName", "(Ljava/lang/String;)Ljava/lang/String;"⟩ : MethodName)) hown (mvT hZ (hw _ (List.mem_of_getElem? (i := 35) rfl))) (mvT hZ (hw _ (List.mem_of_getElem? (i := 36) rfl))) (mvT hZ (hw _ (List.mem_of_getElem? (i := 37) rfl))) (mvT hZ (hw _ (List.mem_of_getElem? (i := 38) rfl))) (by decide) (backOf (W := 0) (rm8 l Z ar0 hw [] b300 ([(nar .char (f1 p1)), (nar .char (f1 p2)), (nar .char (f1 p3))]) (3 : Int32) gc1 gf3 t307 kt307 h307 n0 Z307 P5 rG3 hcd307 hbd307 (Nat.le_of_ble_eq_true rfl) (own_hok3 p1 p2 p3) (Nat.le_of_ble_eq_true rfl) (Nat.le_of_ble_eq_true rfl) Sf309 Sf310 QE307 QV307 QC307 QB307) hZ (hw _ (List.mem_of_getElem? (i := 38) rfl)) (hw _ (List.mem_of_getElem? (i := 37) rfl)) (by decide) (by decide)) (g := (mkF m 142 #[.val (.int p0), .val (.int p1), .val (.int p2), .val (.int p3), .val (.int p4), .val (.int (3 : Int32)), .val (.int (f1 p1)), .val (.int (f1 p2)), .val (.int (f1 p3)), .val (.int (f1 p4)), .val (.ref b277), .val (.ref b300), .unset] [(.ref b300)])) rfl (by rw [hml]; rfl) (argsL := [(.ref b300)]) (rest := []) (lenOf pd_4 rfl) rfl (by show 2 * 0 + _ ≤ _; exact Nat.le_of_eq rfl) (hb hby at_142) (fun _ _ => ⟨rfl, e307, (by decide : 3 + 0 ≤ _), (by decide : 10 + 0 ≤ _)⟩)
    dsimp only [Pt.U, Pt.locs, Pt.cells, Pt.slots] at X315 l315 y315 z315 st315 hQ315
    subst l315 y315 z315
    obtain ⟨rfl, N315q, e315⟩ := hQ315
    have N315 := Fr.app N307 N315q
    have pre316 : ∀ t, Steps p.tables e below (T315.setTop (mkF m 145 #[.val (.int p0), .val (.int p1), .val (.int p2), .val (.int p3), .val (.int p4), .val (.int (3 : Int32)), .val (.int (f1 p1)), .val (.int (f1 p2)), .val (.int (f1 p3)), .val (.int (f1 p4)), .val (.ref b277), .val (.ref b300), .unset] [(.ref b300)])) t → Steps p.tables e below (s₁.setTop (entryFrame m #[(.int p0), (.int p1), (.int p2), (.int p3), (.int p4)] maxLocals)) t := fun t k => pre314 t (st315 t k)
    have pre317 : ∀ t, Steps p.tables e below (T315.setTop (mkF m 156 #[.val (.int p0), .val (.int p1), .val (.int p2), .val (.int p3), .val (.int p4), .val (.int (3 : Int32)), .val (.int (f1 p1)), .val (.int (f1 p2)), .val (.int (f1 p3)), .val (.int (f1 p4)), .val (.ref b277), .val (.ref b300), .val (.ref b300)] [(.ref b300)])) t → Steps p.tables e below (s₁.setTop (entryFrame m #[(.int p0), (.int p1), (.int p2), (.int p3), (.int p4)] maxLocals)) t := by
      intro t k
      refine pre316 t ?_
      show Steps p.tables e below (T315.setTop (mkF m 145 #[.val (.int p0), .val (.int p1), .val (.int p2), .val (.int p3), .val (.int p4), .val (.int (3 : Int32)), .val (.int (f1 p1)), .val (.int (f1 p2)), .val (.int (f1 p3)), .val (.int (f1 p4)), .val (.ref b277), .val (.ref b300), .unset] [(.ref b300)])) _
      refine XS.astore X315.here hx rfl (hb hby at_145) rfl rfl (l' := #[.val (.int p0), .val (.int p1), .val (.int p2), .val (.int p3), .val (.int p4), .val (.int (3 : Int32)), .val (.int (f1 p1)), .val (.int (f1 p2)), .val (.int (f1 p3)), .val (.int (f1 p4)), .val (.ref b277), .val (.ref b300), .val (.ref b300)]) rfl ?_
      refine XS.aload X315.here hx rfl (hb hby at_147) rfl rfl ?_
      refine XS.aload X315.here hx rfl (hb hby at_149) rfl rfl ?_
      refine Jvm.RoadKit.acmp (g := (mkF m 151 #[.val (.int p0), .val (.int p1), .val (.int p2), .val (.int p3), .val (.int p4), .val (.int (3 : Int32)), .val (.int (f1 p1)), .val (.int (f1 p2)), .val (.int (f1 p3)), .val (.int (f1 p4)), .val (.ref b277), .val (.ref b300), .val (.ref b300)] [(.ref b300), (.ref b300)])) X315 hx rfl rfl rfl (pc0 := 151) (pc' := 154) (same := true) rfl (hb hby at_151) rfl (decide_eq_true rfl) (by decide) (by decide) ?_
      refine XS.aload X315.here hx rfl (hb hby at_154) rfl rfl ?_
      exact k
    obtain ⟨cq318, kq318, q318a, q318b, q318c⟩ := isOf hZ e315 QE307
    obtain ⟨_, _, ⟨T318, L318, k318, n318⟩, -, X318, ⟨Lc318, hQ318, l318, y318, z318⟩, st318⟩ := X315.virtualBack hx (y := (⟨"java/lang/String", "length", "()I"⟩ : MethodName)) (z := (⟨"java/lang/String", "length", "()I"⟩ : MethodName)) hown (mvT hZ (hw _ (List.mem_of_getElem? (i := 76) rfl))) (mvT hZ (hw _ (List.mem_of_getElem? (i := 45) rfl))) (notFace_of_selects (args := #[]) (mvT hZ (hw _ (List.mem_of_getElem? (i := 47) rfl)))) (mvT hZ (hw _ (List.mem_of_getElem? (i := 47) rfl))) (mvT hZ (hw _ (List.mem_of_getElem? (i := 46) rfl))) (by decide) (StrChars.Road.lenW (W := 0) hZ (own_wordsLen hw) (kI := 4) (hw _ (List.mem_of_getElem? (i := 7) rfl)) QE307 QV307 QC307 QB307 hcd307 hbd307 Sf309 P5 (Nat.le_of_ble_eq_true rfl) (by decide) (by decide)) q318a q318c (g := (mkF m 156 #[.val (.int p0), .val (.int p1), .val (.int p2), .val (.int p3), .val (.int p4), .val (.int (3 : Int32)), .val (.int (f1 p1)), .val (.int (f1 p2)), .val (.int (f1 p3)), .val (.int (f1 p4)), .val (.ref b277), .val (.ref b300), .val (.ref b300)] [(.ref b300)])) rfl (by rw [hml]; rfl) (Steps.refl _) (argsL := []) (rest := []) (lenOf pd_0 rfl) rfl (by show 2 * 0 + _ ≤ _; exact Nat.le_of_eq rfl) (hb hby at_156) (fun _ _ => ⟨rfl, e315, (by decide : 3 + 0 ≤ _), (by decide : 10 + 0 ≤ _)⟩)
    dsimp only [Pt.U, Pt.locs, Pt.cells, Pt.slots] at X318 l318 y318 z318 st318 hQ318
    subst l318 y318 z318
    obtain ⟨rfl, rfl, e318⟩ := hQ318
    try rw [List.append_nil] at X318
    have pre319 : ∀ t, Steps p.tables e below (T318.setTop (mkF m 159 #[.val (.int p0), .val (.int p1), .val (.int p2), .val (.int p3), .val (.int p4), .val (.int (3 : Int32)), .val (.int (f1 p1)), .val (.int (f1 p2)), .val (.int (f1 p3)), .val (.int (f1 p4)), .val (.ref b277), .val (.ref b300), .val (.ref b300)] [(.int (3 : Int32))])) t → Steps p.tables e below (s₁.setTop (entryFrame m #[(.int p0), (.int p1), (.int p2), (.int p3), (.int p4)] maxLocals)) t := fun t k => pre317 t (st318.trans k)
    have pre320 : ∀ t, Steps p.tables e below (T318.setTop (mkF m 167 #[.val (.int p0), .val (.int p1), .val (.int p2), .val (.int p3), .val (.int p4), .val (.int (3 : Int32)), .val (.int (f1 p1)), .val (.int (f1 p2)), .val (.int (f1 p3)), .val (.int (f1 p4)), .val (.ref b277), .val (.ref b300), .val (.ref b300)] [(.int (0 : Int32)), (.ref b300)])) t → Steps p.tables e below (s₁.setTop (entryFrame m #[(.int p0), (.int p1), (.int p2), (.int p3), (.int p4)] maxLocals)) t := by
      intro t k
      refine pre319 t ?_
      show Steps p.tables e below (T318.setTop (mkF m 159 #[.val (.int p0), .val (.int p1), .val (.int p2), .val (.int p3), .val (.int p4), .val (.int (3 : Int32)), .val (.int (f1 p1)), .val (.int (f1 p2)), .val (.int (f1 p3)), .val (.int (f1 p4)), .val (.ref b277), .val (.ref b300), .val (.ref b300)] [(.int (3 : Int32))])) _
      refine XS.iload X318.here hx rfl (hb hby at_159) rfl ?_
      refine XS.icmpNo X318.here hx rfl (hb hby at_161) rfl (teq (by decide : (3 : Int32) = (3 : Int32))).2 ?_
      refine XS.aload X318.here hx rfl (hb hby at_164) rfl rfl ?_
      refine XS.iconst X318.here hx rfl (hb hby at_166) ?_
      exact k
    obtain ⟨cq321, kq321, q321a, q321b, q321c⟩ := isOf hZ e318 QE307
    obtain ⟨_, _, ⟨T321, L321, k321, n321⟩, -, X321, ⟨Lc321, hQ321, l321, y321, z321⟩, st321⟩ := X318.virtualBack hx (y := (⟨"java/lang/String", "charAt", "(I)C"⟩ : MethodName)) (z := (⟨"java/lang/String", "charAt", "(I)C"⟩ : MethodName)) hown (mvT hZ (hw _ (List.mem_of_getElem? (i := 77) rfl))) (mvT hZ (hw _ (List.mem_of_getElem? (i := 55) rfl))) (notFace_of_selects (args := #[]) (mvT hZ (hw _ (List.mem_of_getElem? (i := 57) rfl)))) (mvT hZ (hw _ (List.mem_of_getElem? (i := 57) rfl))) (mvT hZ (hw _ (List.mem_of_getElem? (i := 56) rfl))) (by decide) (StrChars.Road.chN (W := 0) hZ (own_wordsChN hw) (kI := 4) (hw _ (List.mem_of_getElem? (i := 7) rfl)) QE307 QV307 QC307 QB307 hcd307 hbd307 Sf309 P5 Sf310 rG3 (Nat.le_of_ble_eq_true rfl) (i := 0) (Nat.le_of_ble_eq_true rfl) (j := (0 : Int32)) rfl (by decide) (by decide)) q321a q321c (g := (mkF m 167 #[.val (.int p0), .val (.int p1), .val (.int p2), .val (.int p3), .val (.int p4), .val (.int (3 : Int32)), .val (.int (f1 p1)), .val (.int (f1 p2)), .val (.int (f1 p3)), .val (.int (f1 p4)), .val (.ref b277), .val (.ref b300), .val (.ref b300)] [(.int (0 : Int32)), (.ref b300)])) rfl (by rw [hml]; rfl) (Steps.refl _) (argsL := [(.int (0 : Int32))]) (rest := []) (lenOf pd_1 rfl) rfl (by show 2 * 0 + _ ≤ _; exact Nat.le_of_eq rfl) (hb hby at_167) (fun _ _ => ⟨rfl, e318, (by decide : 3 + 0 ≤ _), (by decide : 10 + 0 ≤ _)⟩)
    dsimp only [Pt.U, Pt.locs, Pt.cells, Pt.slots] at X321 l321 y321 z321 st321 hQ321
    subst l321 y321 z321
    obtain ⟨rfl, rfl, e321⟩ := hQ321
    try rw [List.append_nil] at X321
    have pre322 : ∀ t, Steps p.tables e below (T321.setTop (mkF m 170 #[.val (.int p0), .val (.int p1), .val (.int p2), .val (.int p3), .val (.int p4), .val (.int (3 : Int32)), .val (.int (f1 p1)), .val (.int (f1 p2)), .val (.int (f1 p3)), .val (.int (f1 p4)), .val (.ref b277), .val (.ref b300), .val (.ref b300)] [(.int (nar .char (f1 p1)))])) t → Steps p.tables e below (s₁.setTop (entryFrame m #[(.int p0), (.int p1), (.int p2), (.int p3), (.int p4)] maxLocals)) t := fun t k => pre320 t (st321.trans k)
    have pre323 : ∀ t, Steps p.tables e below (T321.setTop (mkF m 172 #[.val (.int p0), .val (.int p1), .val (.int p2), .val (.int p3), .val (.int p4), .val (.int (3 : Int32)), .val (.int (f1 p1)), .val (.int (f1 p2)), .val (.int (f1 p3)), .val (.int (f1 p4)), .val (.ref b277), .val (.ref b300), .val (.ref b300)] [(.int (f1 p1)), (.int (nar .char (f1 p1)))])) t → Steps p.tables e below (s₁.setTop (entryFrame m #[(.int p0), (.int p1), (.int p2), (.int p3), (.int p4)] maxLocals)) t := by
      intro t k
      refine pre322 t ?_
      show Steps p.tables e below (T321.setTop (mkF m 170 #[.val (.int p0), .val (.int p1), .val (.int p2), .val (.int p3), .val (.int p4), .val (.int (3 : Int32)), .val (.int (f1 p1)), .val (.int (f1 p2)), .val (.int (f1 p3)), .val (.int (f1 p4)), .val (.ref b277), .val (.ref b300), .val (.ref b300)] [(.int (nar .char (f1 p1)))])) _
      refine XS.iload X321.here hx rfl (hb hby at_170) rfl ?_
      exact k
    by_cases hc172_324 : (nar .char (f1 p1)) = (f1 p1)
    · obtain ⟨fs, hr, hrun, hended, hW, hsame⟩ := X321.leave (v := some (.int (1 : Int32))) (fun h => by rw [Bd.returns] at h; cases h)
      refine ⟨_, _, pre323 _ ?_, hrun, hended, _, _, rfl, ?_, ⟨_, rfl⟩, hW, hsame.mono (by decide) (by decide)⟩
      · show Steps p.tables e below (T321.setTop (mkF m 172 #[.val (.int p0), .val (.int p1), .val (.int p2), .val (.int p3), .val (.int p4), .val (.int (3 : Int32)), .val (.int (f1 p1)), .val (.int (f1 p2)), .val (.int (f1 p3)), .val (.int (f1 p4)), .val (.ref b277), .val (.ref b300), .val (.ref b300)] [(.int (f1 p1)), (.int (nar .char (f1 p1)))])) _
        refine XS.icmpNo X321.here hx rfl (hb hby at_172) rfl (teq hc172_324).2 ?_
        refine XS.iconst X321.here hx rfl (hb hby at_175) ?_
        refine XS.goto X321.here hx rfl (pc0 := 176) (pc' := 180) rfl (hb hby at_176) (by decide) (by decide) ?_
        exact retN X321 hx (t := .boolean) Bd.returns (by simp) (hb hby at_180) hr
      · show Q0 Z p0 p1 p2 p3 p4 gc1 gf3 h0 n0 _ T321.heap _
        rw [e321]
        exact ⟨rfl, N315⟩
    · have pre325 : ∀ t, Steps p.tables e below (T321.setTop (mkF m 180 #[.val (.int p0), .val (.int p1), .val (.int p2), .val (.int p3), .val (.int p4), .val (.int (3 : Int32)), .val (.int (f1 p1)), .val (.int (f1 p2)), .val (.int (f1 p3)), .val (.int (f1 p4)), .val (.ref b277), .val (.ref b300), .val (.ref b300)] [(.int (0 : Int32))])) t → Steps p.tables e below (s₁.setTop (entryFrame m #[(.int p0), (.int p1), (.int p2), (.int p3), (.int p4)] maxLocals)) t := by
        intro t k
        refine pre323 t ?_
        show Steps p.tables e below (T321.setTop (mkF m 172 #[.val (.int p0), .val (.int p1), .val (.int p2), .val (.int p3), .val (.int p4), .val (.int (3 : Int32)), .val (.int (f1 p1)), .val (.int (f1 p2)), .val (.int (f1 p3)), .val (.int (f1 p4)), .val (.ref b277), .val (.ref b300), .val (.ref b300)] [(.int (f1 p1)), (.int (nar .char (f1 p1)))])) _
        refine XS.icmpYes X321.here hx rfl (pc0 := 172) (pc' := 179) rfl (hb hby at_172) rfl (feq hc172_324).2 (by decide) (by decide) ?_
        refine XS.iconst X321.here hx rfl (hb hby at_179) ?_
        exact k
      exact (own_leaf3 rG3 P5 hv155 hc172_324).elim
  · have pre326 : ∀ t, Steps p.tables e below (s₁.setTop (mkF m 8 #[.val (.int p0), .val (.int p1), .val (.int p2), .val (.int p3), .val (.int p4), .val (.int (4 : Int32)), .unset, .unset, .unset, .unset, .unset, .unset, .unset] [(.int p1)])) t → Steps p.tables e below (s₁.setTop (entryFrame m #[(.int p0), (.int p1), (.int p2), (.int p3), (.int p4)] maxLocals)) t := by
      intro t k
      refine pre157 t ?_
      show Steps p.tables e below (s₁.setTop (mkF m 7 #[.val (.int p0), .val (.int p1), .val (.int p2), .val (.int p3), .val (.int p4), .val (.int (4 : Int32)), .unset, .unset, .unset, .unset, .unset, .unset, .unset] [])) _
      refine XS.iloadN X0.here hx rfl (hb hby at_7) rfl ?_
      exact k
    obtain ⟨_, _, ⟨T327, L327, k327, n327⟩, -, X327, ⟨Lc327, hQ327, l327, y327, z327⟩, st327⟩ := Jvm.LawKit.callS X0 hx (y := (⟨"com/example/loomfilter/loomfilter/core/LayoutCheckNamePinLaw", "allowed", "(I)C"⟩ : MethodName)) hown (mvT hZ (hw _ (List.mem_of_getElem? (i := 0) rfl))) (mvT hZ (hw _ (List.mem_of_getElem? (i := 1) rfl))) (mvT hZ (hw _ (List.mem_of_getElem? (i := 2) rfl))) (mvT hZ (hw _ (List.mem_of_getElem? (i := 3) rfl))) (by decide) (backOf (W := 0) (rm1 l Z ar0 hw [] p1 h0 n0 Z0) hZ (hw _ (List.mem_of_getElem? (i := 3) rfl)) (hw _ (List.mem_of_getElem? (i := 2) rfl)) (by decide) (by decide)) (g := (mkF m 8 #[.val (.int p0), .val (.int p1), .val (.int p2), .val (.int p3), .val (.int p4), .val (.int (4 : Int32)), .unset, .unset, .unset, .unset, .unset, .unset, .unset] [(.int p1)])) rfl (by rw [hml]; rfl) (argsL := [(.int p1)]) (rest := []) (lenOf pd_1 rfl) rfl (by show 2 * 0 + _ ≤ _; exact Nat.le_of_eq rfl) (hb hby at_8) (fun _ _ => ⟨rfl, e0, (by decide : 0 + 0 ≤ _), (by decide : 0 + 0 ≤ _)⟩)
    dsimp only [Pt.U, Pt.locs, Pt.cells, Pt.slots] at X327 l327 y327 z327 st327 hQ327
    subst l327 y327 z327
    obtain ⟨rfl, N327q, e327⟩ := hQ327
    have N327 := Fr.app N0 N327q
    have pre328 : ∀ t, Steps p.tables e below (T327.setTop (mkF m 11 #[.val (.int p0), .val (.int p1), .val (.int p2), .val (.int p3), .val (.int p4), .val (.int (4 : Int32)), .unset, .unset, .unset, .unset, .unset, .unset, .unset] [(.int (f1 p1))])) t → Steps p.tables e below (s₁.setTop (entryFrame m #[(.int p0), (.int p1), (.int p2), (.int p3), (.int p4)] maxLocals)) t := fun t k => pre326 t (st327 t k)
    have pre329 : ∀ t, Steps p.tables e below (T327.setTop (mkF m 14 #[.val (.int p0), .val (.int p1), .val (.int p2), .val (.int p3), .val (.int p4), .val (.int (4 : Int32)), .val (.int (f1 p1)), .unset, .unset, .unset, .unset, .unset, .unset] [(.int p2)])) t → Steps p.tables e below (s₁.setTop (entryFrame m #[(.int p0), (.int p1), (.int p2), (.int p3), (.int p4)] maxLocals)) t := by
      intro t k
      refine pre328 t ?_
      show Steps p.tables e below (T327.setTop (mkF m 11 #[.val (.int p0), .val (.int p1), .val (.int p2), .val (.int p3), .val (.int p4), .val (.int (4 : Int32)), .unset, .unset, .unset, .unset, .unset, .unset, .unset] [(.int (f1 p1))])) _
      refine XS.istore X327.here hx rfl (hb hby at_11) rfl (l' := #[.val (.int p0), .val (.int p1), .val (.int p2), .val (.int p3), .val (.int p4), .val (.int (4 : Int32)), .val (.int (f1 p1)), .unset, .unset, .unset, .unset, .unset, .unset]) rfl ?_
      refine XS.iloadN X327.here hx rfl (hb hby at_13) rfl ?_
      exact k
    obtain ⟨_, _, ⟨T330, L330, k330, n330⟩, -, X330, ⟨Lc330, hQ330, l330, y330, z330⟩, st330⟩ := Jvm.LawKit.callS X327 hx (y := (⟨"com/example/loomfilter/loomfilter/core/LayoutCheckNamePinLaw", "allowed", "(I)C"⟩ : MethodName)) hown (mvT hZ (hw _ (List.mem_of_getElem? (i := 0) rfl))) (mvT hZ (hw _ (List.mem_of_getElem? (i := 1) rfl))) (mvT hZ (hw _ (List.mem_of_getElem? (i := 2) rfl))) (mvT hZ (hw _ (List.mem_of_getElem? (i := 3) rfl))) (by decide) (backOf (W := 0) (rm1 l Z ar0 hw [] p2 h0 n0 Z0) hZ (hw _ (List.mem_of_getElem? (i := 3) rfl)) (hw _ (List.mem_of_getElem? (i := 2) rfl)) (by decide) (by decide)) (g := (mkF m 14 #[.val (.int p0), .val (.int p1), .val (.int p2), .val (.int p3), .val (.int p4), .val (.int (4 : Int32)), .val (.int (f1 p1)), .unset, .unset, .unset, .unset, .unset, .unset] [(.int p2)])) rfl (by rw [hml]; rfl) (argsL := [(.int p2)]) (rest := []) (lenOf pd_1 rfl) rfl (by show 2 * 0 + _ ≤ _; exact Nat.le_of_eq rfl) (hb hby at_14) (fun _ _ => ⟨rfl, e327, (by decide : 0 + 0 ≤ _), (by decide : 0 + 0 ≤ _)⟩)
    dsimp only [Pt.U, Pt.locs, Pt.cells, Pt.slots] at X330 l330 y330 z330 st330 hQ330
    subst l330 y330 z330
    obtain ⟨rfl, N330q, e330⟩ := hQ330
    have N330 := Fr.app N327 N330q
    have pre331 : ∀ t, Steps p.tables e below (T330.setTop (mkF m 17 #[.val (.int p0), .val (.int p1), .val (.int p2), .val (.int p3), .val (.int p4), .val (.int (4 : Int32)), .val (.int (f1 p1)), .unset, .unset, .unset, .unset, .unset, .unset] [(.int (f1 p2))])) t → Steps p.tables e below (s₁.setTop (entryFrame m #[(.int p0), (.int p1), (.int p2), (.int p3), (.int p4)] maxLocals)) t := fun t k => pre329 t (st330 t k)
    have pre332 : ∀ t, Steps p.tables e below (T330.setTop (mkF m 20 #[.val (.int p0), .val (.int p1), .val (.int p2), .val (.int p3), .val (.int p4), .val (.int (4 : Int32)), .val (.int (f1 p1)), .val (.int (f1 p2)), .unset, .unset, .unset, .unset, .unset] [(.int p3)])) t → Steps p.tables e below (s₁.setTop (entryFrame m #[(.int p0), (.int p1), (.int p2), (.int p3), (.int p4)] maxLocals)) t := by
      intro t k
      refine pre331 t ?_
      show Steps p.tables e below (T330.setTop (mkF m 17 #[.val (.int p0), .val (.int p1), .val (.int p2), .val (.int p3), .val (.int p4), .val (.int (4 : Int32)), .val (.int (f1 p1)), .unset, .unset, .unset, .unset, .unset, .unset] [(.int (f1 p2))])) _
      refine XS.istore X330.here hx rfl (hb hby at_17) rfl (l' := #[.val (.int p0), .val (.int p1), .val (.int p2), .val (.int p3), .val (.int p4), .val (.int (4 : Int32)), .val (.int (f1 p1)), .val (.int (f1 p2)), .unset, .unset, .unset, .unset, .unset]) rfl ?_
      refine XS.iloadN X330.here hx rfl (hb hby at_19) rfl ?_
      exact k
    obtain ⟨_, _, ⟨T333, L333, k333, n333⟩, -, X333, ⟨Lc333, hQ333, l333, y333, z333⟩, st333⟩ := Jvm.LawKit.callS X330 hx (y := (⟨"com/example/loomfilter/loomfilter/core/LayoutCheckNamePinLaw", "allowed", "(I)C"⟩ : MethodName)) hown (mvT hZ (hw _ (List.mem_of_getElem? (i := 0) rfl))) (mvT hZ (hw _ (List.mem_of_getElem? (i := 1) rfl))) (mvT hZ (hw _ (List.mem_of_getElem? (i := 2) rfl))) (mvT hZ (hw _ (List.mem_of_getElem? (i := 3) rfl))) (by decide) (backOf (W := 0) (rm1 l Z ar0 hw [] p3 h0 n0 Z0) hZ (hw _ (List.mem_of_getElem? (i := 3) rfl)) (hw _ (List.mem_of_getElem? (i := 2) rfl)) (by decide) (by decide)) (g := (mkF m 20 #[.val (.int p0), .val (.int p1), .val (.int p2), .val (.int p3), .val (.int p4), .val (.int (4 : Int32)), .val (.int (f1 p1)), .val (.int (f1 p2)), .unset, .unset, .unset, .unset, .unset] [(.int p3)])) rfl (by rw [hml]; rfl) (argsL := [(.int p3)]) (rest := []) (lenOf pd_1 rfl) rfl (by show 2 * 0 + _ ≤ _; exact Nat.le_of_eq rfl) (hb hby at_20) (fun _ _ => ⟨rfl, e330, (by decide : 0 + 0 ≤ _), (by decide : 0 + 0 ≤ _)⟩)
    dsimp only [Pt.U, Pt.locs, Pt.cells, Pt.slots] at X333 l333 y333 z333 st333 hQ333
    subst l333 y333 z333
    obtain ⟨rfl, N333q, e333⟩ := hQ333
    have N333 := Fr.app N330 N333q
    have pre334 : ∀ t, Steps p.tables e below (T333.setTop (mkF m 23 #[.val (.int p0), .val (.int p1), .val (.int p2), .val (.int p3), .val (.int p4), .val (.int (4 : Int32)), .val (.int (f1 p1)), .val (.int (f1 p2)), .unset, .unset, .unset, .unset, .unset] [(.int (f1 p3))])) t → Steps p.tables e below (s₁.setTop (entryFrame m #[(.int p0), (.int p1), (.int p2), (.int p3), (.int p4)] maxLocals)) t := fun t k => pre332 t (st333 t k)
    have pre335 : ∀ t, Steps p.tables e below (T333.setTop (mkF m 27 #[.val (.int p0), .val (.int p1), .val (.int p2), .val (.int p3), .val (.int p4), .val (.int (4 : Int32)), .val (.int (f1 p1)), .val (.int (f1 p2)), .val (.int (f1 p3)), .unset, .unset, .unset, .unset] [(.int p4)])) t → Steps p.tables e below (s₁.setTop (entryFrame m #[(.int p0), (.int p1), (.int p2), (.int p3), (.int p4)] maxLocals)) t := by
      intro t k
      refine pre334 t ?_
      show Steps p.tables e below (T333.setTop (mkF m 23 #[.val (.int p0), .val (.int p1), .val (.int p2), .val (.int p3), .val (.int p4), .val (.int (4 : Int32)), .val (.int (f1 p1)), .val (.int (f1 p2)), .unset, .unset, .unset, .unset, .unset] [(.int (f1 p3))])) _
      refine XS.istore X333.here hx rfl (hb hby at_23) rfl (l' := #[.val (.int p0), .val (.int p1), .val (.int p2), .val (.int p3), .val (.int p4), .val (.int (4 : Int32)), .val (.int (f1 p1)), .val (.int (f1 p2)), .val (.int (f1 p3)), .unset, .unset, .unset, .unset]) rfl ?_
      refine XS.iload X333.here hx rfl (hb hby at_25) rfl ?_
      exact k
    obtain ⟨_, _, ⟨T336, L336, k336, n336⟩, -, X336, ⟨Lc336, hQ336, l336, y336, z336⟩, st336⟩ := Jvm.LawKit.callS X333 hx (y := (⟨"com/example/loomfilter/loomfilter/core/LayoutCheckNamePinLaw", "allowed", "(I)C"⟩ : MethodName)) hown (mvT hZ (hw _ (List.mem_of_getElem? (i := 0) rfl))) (mvT hZ (hw _ (List.mem_of_getElem? (i := 1) rfl))) (mvT hZ (hw _ (List.mem_of_getElem? (i := 2) rfl))) (mvT hZ (hw _ (List.mem_of_getElem? (i := 3) rfl))) (by decide) (backOf (W := 0) (rm1 l Z ar0 hw [] p4 h0 n0 Z0) hZ (hw _ (List.mem_of_getElem? (i := 3) rfl)) (hw _ (List.mem_of_getElem? (i := 2) rfl)) (by decide) (by decide)) (g := (mkF m 27 #[.val (.int p0), .val (.int p1), .val (.int p2), .val (.int p3), .val (.int p4), .val (.int (4 : Int32)), .val (.int (f1 p1)), .val (.int (f1 p2)), .val (.int (f1 p3)), .unset, .unset, .unset, .unset] [(.int p4)])) rfl (by rw [hml]; rfl) (argsL := [(.int p4)]) (rest := []) (lenOf pd_1 rfl) rfl (by show 2 * 0 + _ ≤ _; exact Nat.le_of_eq rfl) (hb hby at_27) (fun _ _ => ⟨rfl, e333, (by decide : 0 + 0 ≤ _), (by decide : 0 + 0 ≤ _)⟩)
    dsimp only [Pt.U, Pt.locs, Pt.cells, Pt.slots] at X336 l336 y336 z336 st336 hQ336
    subst l336 y336 z336
    obtain ⟨rfl, N336q, e336⟩ := hQ336
    have N336 := Fr.app N333 N336q
    have pre337 : ∀ t, Steps p.tables e below (T336.setTop (mkF m 30 #[.val (.int p0), .val (.int p1), .val (.int p2), .val (.int p3), .val (.int p4), .val (.int (4 : Int32)), .val (.int (f1 p1)), .val (.int (f1 p2)), .val (.int (f1 p3)), .unset, .unset, .unset, .unset] [(.int (f1 p4))])) t → Steps p.tables e below (s₁.setTop (entryFrame m #[(.int p0), (.int p1), (.int p2), (.int p3), (.int p4)] maxLocals)) t := fun t k => pre335 t (st336 t k)
    have pre338 : ∀ t, Steps p.tables e below (T336.setTop (mkF m 105 #[.val (.int p0), .val (.int p1), .val (.int p2), .val (.int p3), .val (.int p4), .val (.int (4 : Int32)), .val (.int (f1 p1)), .val (.int (f1 p2)), .val (.int (f1 p3)), .val (.int (f1 p4)), .unset, .unset, .unset] [(.int (4 : Int32))])) t → Steps p.tables e below (s₁.setTop (entryFrame m #[(.int p0), (.int p1), (.int p2), (.int p3), (.int p4)] maxLocals)) t := by
      intro t k
      refine pre337 t ?_
      show Steps p.tables e below (T336.setTop (mkF m 30 #[.val (.int p0), .val (.int p1), .val (.int p2), .val (.int p3), .val (.int p4), .val (.int (4 : Int32)), .val (.int (f1 p1)), .val (.int (f1 p2)), .val (.int (f1 p3)), .unset, .unset, .unset, .unset] [(.int (f1 p4))])) _
      refine XS.istore X336.here hx rfl (hb hby at_30) rfl (l' := #[.val (.int p0), .val (.int p1), .val (.int p2), .val (.int p3), .val (.int p4), .val (.int (4 : Int32)), .val (.int (f1 p1)), .val (.int (f1 p2)), .val (.int (f1 p3)), .val (.int (f1 p4)), .unset, .unset, .unset]) rfl ?_
      refine XS.iload X336.here hx rfl (hb hby at_32) rfl ?_
      refine XS.iconst X336.here hx rfl (hb hby at_34) ?_
      refine XS.icmpYes X336.here hx rfl (pc0 := 35) (pc' := 51) rfl (hb hby at_35) rfl (feq (by decide : ¬ (4 : Int32) = (1 : Int32))).2 (by decide) (by decide) ?_
      refine XS.iload X336.here hx rfl (hb hby at_51) rfl ?_
      refine XS.iconst X336.here hx rfl (hb hby at_53) ?_
      refine XS.icmpYes X336.here hx rfl (pc0 := 54) (pc' := 75) rfl (hb hby at_54) rfl (feq (by decide : ¬ (4 : Int32) = (2 : Int32))).2 (by decide) (by decide) ?_
      refine XS.iload X336.here hx rfl (hb hby at_75) rfl ?_
      refine XS.iconst X336.here hx rfl (hb hby at_77) ?_
      refine XS.icmpYes X336.here hx rfl (pc0 := 78) (pc' := 104) rfl (hb hby at_78) rfl (feq (by decide : ¬ (4 : Int32) = (3 : Int32))).2 (by decide) (by decide) ?_
      refine XS.iconst X336.here hx rfl (hb hby at_104) ?_
      exact k
    obtain ⟨T339, h339, k339, X339, e339, E339, A339, C339, st339⟩ := newPE X336 hx hZ (hw _ (List.mem_of_getElem? (i := 5) rfl)) e336 (g := (mkF m 105 #[.val (.int p0), .val (.int p1), .val (.int p2), .val (.int p3), .val (.int p4), .val (.int (4 : Int32)), .val (.int (f1 p1)), .val (.int (f1 p2)), .val (.int (f1 p3)), .val (.int (f1 p4)), .unset, .unset, .unset] [(.int (4 : Int32))])) rfl (hb hby at_105) rfl (by decide) (cap := 4) (by decide) (by decide) (by decide) (by decide) (ad := "[C") rfl
    obtain ⟨b339, g339⟩ : ∃ z, z = h0.size := ⟨_, rfl⟩
    rw [← g339] at A339 C339 st339
    have g_b339 : n0 ≤ b339 := Nat.le_trans Z0 (Nat.le_of_eq g339.symm)
    have sz_b339 : h0.size ≤ b339 := Nat.le_trans (Keep.refl h0 []).1 (Nat.le_of_eq g339.symm)
    have Z339 : n0 ≤ h339.size := Nat.le_trans Z0 E339.1
    have K339 : Keep h0 h339 [] := (Keep.refl h0 []).ext E339
    have Sf340 : Sta Z h339 "java/lang/String" "COMPACT_STRINGS" "Z" (.int gc1) := (S_COMPACT_STRINGS).ext E339
    have Sf341 : Sta Z h339 "jdk/internal/util/Preconditions" "SIOOBE_FORMATTER" "Ljava/util/function/BiFunction;" gf3 := (S_SIOOBE_FORMATTER).ext E339
    have V_b339 : Arv Z h339 b339 k339 .char (4 : Int32) [(.int (0 : Int32)), (.int (0 : Int32)), (.int (0 : Int32)), (.int (0 : Int32))] (.int (0 : Int32)) := (Arv.new A339 (by decide)).pad (pad_rep [] (.int (0 : Int32)) 4)
    have pre342 : ∀ t, Steps p.tables e below (T339.setTop (mkF m 107 #[.val (.int p0), .val (.int p1), .val (.int p2), .val (.int p3), .val (.int p4), .val (.int (4 : Int32)), .val (.int (f1 p1)), .val (.int (f1 p2)), .val (.int (f1 p3)), .val (.int (f1 p4)), .unset, .unset, .unset] [(.ref b339)])) t → Steps p.tables e below (s₁.setTop (entryFrame m #[(.int p0), (.int p1), (.int p2), (.int p3), (.int p4)] maxLocals)) t := fun t k => pre338 t (st339 t k)
    have pre343 : ∀ t, Steps p.tables e below (T339.setTop (mkF m 111 #[.val (.int p0), .val (.int p1), .val (.int p2), .val (.int p3), .val (.int p4), .val (.int (4 : Int32)), .val (.int (f1 p1)), .val (.int (f1 p2)), .val (.int (f1 p3)), .val (.int (f1 p4)), .unset, .unset, .unset] [(.int (f1 p1)), (.int (0 : Int32)), (.ref b339), (.ref b339)])) t → Steps p.tables e below (s₁.setTop (entryFrame m #[(.int p0), (.int p1), (.int p2), (.int p3), (.int p4)] maxLocals)) t := by
      intro t k
      refine pre342 t ?_
      show Steps p.tables e below (T339.setTop (mkF m 107 #[.val (.int p0), .val (.int p1), .val (.int p2), .val (.int p3), .val (.int p4), .val (.int (4 : Int32)), .val (.int (f1 p1)), .val (.int (f1 p2)), .val (.int (f1 p3)), .val (.int (f1 p4)), .unset, .unset, .unset] [(.ref b339)])) _
      refine XS.dup X339.here hx rfl (hb hby at_107) rfl rfl ?_
      refine XS.iconst X339.here hx rfl (hb hby at_108) ?_
      refine XS.iload X339.here hx rfl (hb hby at_109) rfl ?_
      exact k
    obtain ⟨cl344, Ar344, q344, S344, M344, H344, G344⟩ := id V_b339
    have hin344 : ¬ ((0 : Int32) < 0 ∨ cl344.slots.size ≤ ((0 : Int32)).toNatClampNeg) := inb_of S344 ⟨by decide, by decide⟩
    obtain ⟨T344, h344, X344, e344, W344, st344⟩ := stC X339 hx hZ e339 Ar344 (j := (0 : Int32)) hin344 (g := (mkF m 111 #[.val (.int p0), .val (.int p1), .val (.int p2), .val (.int p3), .val (.int p4), .val (.int (4 : Int32)), .val (.int (f1 p1)), .val (.int (f1 p2)), .val (.int (f1 p3)), .val (.int (f1 p4)), .unset, .unset, .unset] [(.int (f1 p1)), (.int (0 : Int32)), (.ref b339), (.ref b339)])) rfl rfl (hb hby at_111)
    have Z344 : n0 ≤ h344.size := Nat.le_trans Z339 (Keep.of_wr W344).1
    have K344 : Keep h0 h344 [] := K339.wr W344 (Or.inr sz_b339)
    have N344 := Fr.snoc X344 N336 g_b339
    have Sf345 : Sta Z h344 "java/lang/String" "COMPACT_STRINGS" "Z" (.int gc1) := (Sf340).wr W344
    have Sf346 : Sta Z h344 "jdk/internal/util/Preconditions" "SIOOBE_FORMATTER" "Ljava/util/function/BiFunction;" gf3 := (Sf341).wr W344
    have Ef347 : Exa Z h344 b339 "[C" := (C339).wr W344
    have V344 : Arv Z h344 b339 k339 .char (4 : Int32) [(.int (nar .char (f1 p1))), (.int (0 : Int32)), (.int (0 : Int32)), (.int (0 : Int32))] (.int (0 : Int32)) := Arv.set Ar344 q344 S344 M344 H344 G344 (fits_nar_char _) W344 0 rfl (Nat.le_of_ble_eq_true rfl)
    have pre348 : ∀ t, Steps p.tables e below (T344.setTop (mkF m 112 #[.val (.int p0), .val (.int p1), .val (.int p2), .val (.int p3), .val (.int p4), .val (.int (4 : Int32)), .val (.int (f1 p1)), .val (.int (f1 p2)), .val (.int (f1 p3)), .val (.int (f1 p4)), .unset, .unset, .unset] [(.ref b339)])) t → Steps p.tables e below (s₁.setTop (entryFrame m #[(.int p0), (.int p1), (.int p2), (.int p3), (.int p4)] maxLocals)) t := fun t k => pre343 t (st344 t k)
    have pre349 : ∀ t, Steps p.tables e below (T344.setTop (mkF m 116 #[.val (.int p0), .val (.int p1), .val (.int p2), .val (.int p3), .val (.int p4), .val (.int (4 : Int32)), .val (.int (f1 p1)), .val (.int (f1 p2)), .val (.int (f1 p3)), .val (.int (f1 p4)), .unset, .unset, .unset] [(.int (f1 p2)), (.int (1 : Int32)), (.ref b339), (.ref b339)])) t → Steps p.tables e below (s₁.setTop (entryFrame m #[(.int p0), (.int p1), (.int p2), (.int p3), (.int p4)] maxLocals)) t := by
      intro t k
      refine pre348 t ?_
      show Steps p.tables e below (T344.setTop (mkF m 112 #[.val (.int p0), .val (.int p1), .val (.int p2), .val (.int p3), .val (.int p4), .val (.int (4 : Int32)), .val (.int (f1 p1)), .val (.int (f1 p2)), .val (.int (f1 p3)), .val (.int (f1 p4)), .unset, .unset, .unset] [(.ref b339)])) _
      refine XS.dup X344.here hx rfl (hb hby at_112) rfl rfl ?_
      refine XS.iconst X344.here hx rfl (hb hby at_113) ?_
      refine XS.iload X344.here hx rfl (hb hby at_114) rfl ?_
      exact k
    obtain ⟨cl350, Ar350, q350, S350, M350, H350, G350⟩ := id V344
    have hin350 : ¬ ((1 : Int32) < 0 ∨ cl350.slots.size ≤ ((1 : Int32)).toNatClampNeg) := inb_of S350 ⟨by decide, by decide⟩
    obtain ⟨T350, h350, X350, e350, W350, st350⟩ := stC X344 hx hZ e344 Ar350 (j := (1 : Int32)) hin350 (g := (mkF m 116 #[.val (.int p0), .val (.int p1), .val (.int p2), .val (.int p3), .val (.int p4), .val (.int (4 : Int32)), .val (.int (f1 p1)), .val (.int (f1 p2)), .val (.int (f1 p3)), .val (.int (f1 p4)), .unset, .unset, .unset] [(.int (f1 p2)), (.int (1 : Int32)), (.ref b339), (.ref b339)])) rfl rfl (hb hby at_116)
    have Z350 : n0 ≤ h350.size := Nat.le_trans Z344 (Keep.of_wr W350).1
    have K350 : Keep h0 h350 [] := K344.wr W350 (Or.inr sz_b339)
    have N350 := Fr.snoc X350 N344 g_b339
    have Sf351 : Sta Z h350 "java/lang/String" "COMPACT_STRINGS" "Z" (.int gc1) := (Sf345).wr W350
    have Sf352 : Sta Z h350 "jdk/internal/util/Preconditions" "SIOOBE_FORMATTER" "Ljava/util/function/BiFunction;" gf3 := (Sf346).wr W350
    have Ef353 : Exa Z h350 b339 "[C" := (Ef347).wr W350
    have V350 : Arv Z h350 b339 k339 .char (4 : Int32) [(.int (nar .char (f1 p1))), (.int (nar .char (f1 p2))), (.int (0 : Int32)), (.int (0 : Int32))] (.int (0 : Int32)) := Arv.set Ar350 q350 S350 M350 H350 G350 (fits_nar_char _) W350 1 rfl (Nat.le_of_ble_eq_true rfl)
    have pre354 : ∀ t, Steps p.tables e below (T350.setTop (mkF m 117 #[.val (.int p0), .val (.int p1), .val (.int p2), .val (.int p3), .val (.int p4), .val (.int (4 : Int32)), .val (.int (f1 p1)), .val (.int (f1 p2)), .val (.int (f1 p3)), .val (.int (f1 p4)), .unset, .unset, .unset] [(.ref b339)])) t → Steps p.tables e below (s₁.setTop (entryFrame m #[(.int p0), (.int p1), (.int p2), (.int p3), (.int p4)] maxLocals)) t := fun t k => pre349 t (st350 t k)
    have pre355 : ∀ t, Steps p.tables e below (T350.setTop (mkF m 121 #[.val (.int p0), .val (.int p1), .val (.int p2), .val (.int p3), .val (.int p4), .val (.int (4 : Int32)), .val (.int (f1 p1)), .val (.int (f1 p2)), .val (.int (f1 p3)), .val (.int (f1 p4)), .unset, .unset, .unset] [(.int (f1 p3)), (.int (2 : Int32)), (.ref b339), (.ref b339)])) t → Steps p.tables e below (s₁.setTop (entryFrame m #[(.int p0), (.int p1), (.int p2), (.int p3), (.int p4)] maxLocals)) t := by
      intro t k
      refine pre354 t ?_
      show Steps p.tables e below (T350.setTop (mkF m 117 #[.val (.int p0), .val (.int p1), .val (.int p2), .val (.int p3), .val (.int p4), .val (.int (4 : Int32)), .val (.int (f1 p1)), .val (.int (f1 p2)), .val (.int (f1 p3)), .val (.int (f1 p4)), .unset, .unset, .unset] [(.ref b339)])) _
      refine XS.dup X350.here hx rfl (hb hby at_117) rfl rfl ?_
      refine XS.iconst X350.here hx rfl (hb hby at_118) ?_
      refine XS.iload X350.here hx rfl (hb hby at_119) rfl ?_
      exact k
    obtain ⟨cl356, Ar356, q356, S356, M356, H356, G356⟩ := id V350
    have hin356 : ¬ ((2 : Int32) < 0 ∨ cl356.slots.size ≤ ((2 : Int32)).toNatClampNeg) := inb_of S356 ⟨by decide, by decide⟩
    obtain ⟨T356, h356, X356, e356, W356, st356⟩ := stC X350 hx hZ e350 Ar356 (j := (2 : Int32)) hin356 (g := (mkF m 121 #[.val (.int p0), .val (.int p1), .val (.int p2), .val (.int p3), .val (.int p4), .val (.int (4 : Int32)), .val (.int (f1 p1)), .val (.int (f1 p2)), .val (.int (f1 p3)), .val (.int (f1 p4)), .unset, .unset, .unset] [(.int (f1 p3)), (.int (2 : Int32)), (.ref b339), (.ref b339)])) rfl rfl (hb hby at_121)
    have Z356 : n0 ≤ h356.size := Nat.le_trans Z350 (Keep.of_wr W356).1
    have K356 : Keep h0 h356 [] := K350.wr W356 (Or.inr sz_b339)
    have N356 := Fr.snoc X356 N350 g_b339
    have Sf357 : Sta Z h356 "java/lang/String" "COMPACT_STRINGS" "Z" (.int gc1) := (Sf351).wr W356
    have Sf358 : Sta Z h356 "jdk/internal/util/Preconditions" "SIOOBE_FORMATTER" "Ljava/util/function/BiFunction;" gf3 := (Sf352).wr W356
    have Ef359 : Exa Z h356 b339 "[C" := (Ef353).wr W356
    have V356 : Arv Z h356 b339 k339 .char (4 : Int32) [(.int (nar .char (f1 p1))), (.int (nar .char (f1 p2))), (.int (nar .char (f1 p3))), (.int (0 : Int32))] (.int (0 : Int32)) := Arv.set Ar356 q356 S356 M356 H356 G356 (fits_nar_char _) W356 2 rfl (Nat.le_of_ble_eq_true rfl)
    have pre360 : ∀ t, Steps p.tables e below (T356.setTop (mkF m 122 #[.val (.int p0), .val (.int p1), .val (.int p2), .val (.int p3), .val (.int p4), .val (.int (4 : Int32)), .val (.int (f1 p1)), .val (.int (f1 p2)), .val (.int (f1 p3)), .val (.int (f1 p4)), .unset, .unset, .unset] [(.ref b339)])) t → Steps p.tables e below (s₁.setTop (entryFrame m #[(.int p0), (.int p1), (.int p2), (.int p3), (.int p4)] maxLocals)) t := fun t k => pre355 t (st356 t k)
    have pre361 : ∀ t, Steps p.tables e below (T356.setTop (mkF m 126 #[.val (.int p0), .val (.int p1), .val (.int p2), .val (.int p3), .val (.int p4), .val (.int (4 : Int32)), .val (.int (f1 p1)), .val (.int (f1 p2)), .val (.int (f1 p3)), .val (.int (f1 p4)), .unset, .unset, .unset] [(.int (f1 p4)), (.int (3 : Int32)), (.ref b339), (.ref b339)])) t → Steps p.tables e below (s₁.setTop (entryFrame m #[(.int p0), (.int p1), (.int p2), (.int p3), (.int p4)] maxLocals)) t := by
      intro t k
      refine pre360 t ?_
      show Steps p.tables e below (T356.setTop (mkF m 122 #[.val (.int p0), .val (.int p1), .val (.int p2), .val (.int p3), .val (.int p4), .val (.int (4 : Int32)), .val (.int (f1 p1)), .val (.int (f1 p2)), .val (.int (f1 p3)), .val (.int (f1 p4)), .unset, .unset, .unset] [(.ref b339)])) _
      refine XS.dup X356.here hx rfl (hb hby at_122) rfl rfl ?_
      refine XS.iconst X356.here hx rfl (hb hby at_123) ?_
      refine XS.iload X356.here hx rfl (hb hby at_124) rfl ?_
      exact k
    obtain ⟨cl362, Ar362, q362, S362, M362, H362, G362⟩ := id V356
    have hin362 : ¬ ((3 : Int32) < 0 ∨ cl362.slots.size ≤ ((3 : Int32)).toNatClampNeg) := inb_of S362 ⟨by decide, by decide⟩
    obtain ⟨T362, h362, X362, e362, W362, st362⟩ := stC X356 hx hZ e356 Ar362 (j := (3 : Int32)) hin362 (g := (mkF m 126 #[.val (.int p0), .val (.int p1), .val (.int p2), .val (.int p3), .val (.int p4), .val (.int (4 : Int32)), .val (.int (f1 p1)), .val (.int (f1 p2)), .val (.int (f1 p3)), .val (.int (f1 p4)), .unset, .unset, .unset] [(.int (f1 p4)), (.int (3 : Int32)), (.ref b339), (.ref b339)])) rfl rfl (hb hby at_126)
    have Z362 : n0 ≤ h362.size := Nat.le_trans Z356 (Keep.of_wr W362).1
    have K362 : Keep h0 h362 [] := K356.wr W362 (Or.inr sz_b339)
    have N362 := Fr.snoc X362 N356 g_b339
    have Sf363 : Sta Z h362 "java/lang/String" "COMPACT_STRINGS" "Z" (.int gc1) := (Sf357).wr W362
    have Sf364 : Sta Z h362 "jdk/internal/util/Preconditions" "SIOOBE_FORMATTER" "Ljava/util/function/BiFunction;" gf3 := (Sf358).wr W362
    have Ef365 : Exa Z h362 b339 "[C" := (Ef359).wr W362
    have V362 : Arv Z h362 b339 k339 .char (4 : Int32) [(.int (nar .char (f1 p1))), (.int (nar .char (f1 p2))), (.int (nar .char (f1 p3))), (.int (nar .char (f1 p4)))] (.int (0 : Int32)) := Arv.set Ar362 q362 S362 M362 H362 G362 (fits_nar_char _) W362 3 rfl (Nat.le_of_ble_eq_true rfl)
    have pre366 : ∀ t, Steps p.tables e below (T362.setTop (mkF m 127 #[.val (.int p0), .val (.int p1), .val (.int p2), .val (.int p3), .val (.int p4), .val (.int (4 : Int32)), .val (.int (f1 p1)), .val (.int (f1 p2)), .val (.int (f1 p3)), .val (.int (f1 p4)), .unset, .unset, .unset] [(.ref b339)])) t → Steps p.tables e below (s₁.setTop (entryFrame m #[(.int p0), (.int p1), (.int p2), (.int p3), (.int p4)] maxLocals)) t := fun t k => pre361 t (st362 t k)
    have pre367 : ∀ t, Steps p.tables e below (T362.setTop (mkF m 129 #[.val (.int p0), .val (.int p1), .val (.int p2), .val (.int p3), .val (.int p4), .val (.int (4 : Int32)), .val (.int (f1 p1)), .val (.int (f1 p2)), .val (.int (f1 p3)), .val (.int (f1 p4)), .val (.ref b339), .unset, .unset] [])) t → Steps p.tables e below (s₁.setTop (entryFrame m #[(.int p0), (.int p1), (.int p2), (.int p3), (.int p4)] maxLocals)) t := by
      intro t k
      refine pre366 t ?_
      show Steps p.tables e below (T362.setTop (mkF m 127 #[.val (.int p0), .val (.int p1), .val (.int p2), .val (.int p3), .val (.int p4), .val (.int (4 : Int32)), .val (.int (f1 p1)), .val (.int (f1 p2)), .val (.int (f1 p3)), .val (.int (f1 p4)), .unset, .unset, .unset] [(.ref b339)])) _
      refine XS.astore X362.here hx rfl (hb hby at_127) rfl rfl (l' := #[.val (.int p0), .val (.int p1), .val (.int p2), .val (.int p3), .val (.int p4), .val (.int (4 : Int32)), .val (.int (f1 p1)), .val (.int (f1 p2)), .val (.int (f1 p3)), .val (.int (f1 p4)), .val (.ref b339), .unset, .unset]) rfl ?_
      exact k
    obtain ⟨T368, h368, X368, e368, E368, A368, D368, -, st368⟩ := newO X362 hx hZ hown (hw _ (List.mem_of_getElem? (i := 6) rfl)) (hw _ (List.mem_of_getElem? (i := 7) rfl)) (hw _ (List.mem_of_getElem? (i := 8) rfl)) e362 (g := (mkF m 129 #[.val (.int p0), .val (.int p1), .val (.int p2), .val (.int p3), .val (.int p4), .val (.int (4 : Int32)), .val (.int (f1 p1)), .val (.int (f1 p2)), .val (.int (f1 p3)), .val (.int (f1 p4)), .val (.ref b339), .unset, .unset] [])) rfl (hb hby at_129) (by decide) (by decide)
    obtain ⟨b368, g368⟩ : ∃ z, z = h362.size := ⟨_, rfl⟩
    rw [← g368] at A368 D368 st368
    have ne_b339_b368 : b339 ≠ b368 := Nat.ne_of_lt (Nat.lt_of_lt_of_le (Ef365).lt (Nat.le_of_eq g368.symm))
    have g_b368 : n0 ≤ b368 := Nat.le_trans Z362 (Nat.le_of_eq g368.symm)
    have sz_b368 : h0.size ≤ b368 := Nat.le_trans K362.1 (Nat.le_of_eq g368.symm)
    have Z368 : n0 ≤ h368.size := Nat.le_trans Z362 E368.1
    have K368 : Keep h0 h368 [] := K362.ext E368
    have Sf369 : Sta Z h368 "java/lang/String" "COMPACT_STRINGS" "Z" (.int gc1) := (Sf363).ext E368
    have Sf370 : Sta Z h368 "jdk/internal/util/Preconditions" "SIOOBE_FORMATTER" "Ljava/util/function/BiFunction;" gf3 := (Sf364).ext E368
    have Ef371 : Exa Z h368 b339 "[C" := (Ef365).ext E368
    have Vf372 : Arv Z h368 b339 k339 .char (4 : Int32) [(.int (nar .char (f1 p1))), (.int (nar .char (f1 p2))), (.int (nar .char (f1 p3))), (.int (nar .char (f1 p4)))] (.int (0 : Int32)) := (V362).ext E368
    have Fcoder_b368 : Fld Z h368 b368 "java/lang/String" "coder" "B" (.int (0 : Int32)) := D368 (Or.inr (hw _ (List.mem_of_getElem? (i := 32) rfl))) (ty := .byte) (by decide)
    have Fvalue_b368 : Fld Z h368 b368 "java/lang/String" "value" "[B" .null := D368 (Or.inr (hw _ (List.mem_of_getElem? (i := 34) rfl))) (ty := (.array .byte)) (by decide)
    have pre373 : ∀ t, Steps p.tables e below (T368.setTop (mkF m 132 #[.val (.int p0), .val (.int p1), .val (.int p2), .val (.int p3), .val (.int p4), .val (.int (4 : Int32)), .val (.int (f1 p1)), .val (.int (f1 p2)), .val (.int (f1 p3)), .val (.int (f1 p4)), .val (.ref b339), .unset, .unset] [(.ref b368)])) t → Steps p.tables e below (s₁.setTop (entryFrame m #[(.int p0), (.int p1), (.int p2), (.int p3), (.int p4)] maxLocals)) t := fun t k => pre367 t (st368 t k)
    have pre374 : ∀ t, Steps p.tables e below (T368.setTop (mkF m 135 #[.val (.int p0), .val (.int p1), .val (.int p2), .val (.int p3), .val (.int p4), .val (.int (4 : Int32)), .val (.int (f1 p1)), .val (.int (f1 p2)), .val (.int (f1 p3)), .val (.int (f1 p4)), .val (.ref b339), .unset, .unset] [(.ref b339), (.ref b368), (.ref b368)])) t → Steps p.tables e below (s₁.setTop (entryFrame m #[(.int p0), (.int p1), (.int p2), (.int p3), (.int p4)] maxLocals)) t := by
      intro t k
      refine pre373 t ?_
      show Steps p.tables e below (T368.setTop (mkF m 132 #[.val (.int p0), .val (.int p1), .val (.int p2), .val (.int p3), .val (.int p4), .val (.int (4 : Int32)), .val (.int (f1 p1)), .val (.int (f1 p2)), .val (.int (f1 p3)), .val (.int (f1 p4)), .val (.ref b339), .unset, .unset] [(.ref b368)])) _
      refine XS.dup X368.here hx rfl (hb hby at_132) rfl rfl ?_
      refine XS.aload X368.here hx rfl (hb hby at_133) rfl rfl ?_
      exact k
    have hp376 : ∀ c ∈ ([(nar .char (f1 p1)), (nar .char (f1 p2)), (nar .char (f1 p3)), (nar .char (f1 p4))] : List Int32), ¬ c < 0 ∧ ¬ (255 : Int32) < c := own_hp4 p1 p2 p3 p4
    obtain ⟨_, _, ⟨T375, L375, k375, n375⟩, -, X375, ⟨Lc375, hQ375, l375, y375, z375⟩, st375⟩ := X368.specialBack hx (y := (⟨"java/lang/String", "<init>", "([C)V"⟩ : MethodName)) rfl hown (mvT hZ (hw _ (List.mem_of_getElem? (i := 9) rfl))) (mvT hZ (hw _ (List.mem_of_getElem? (i := 10) rfl))) (mvT hZ (hw _ (List.mem_of_getElem? (i := 11) rfl))) (by decide) (StrChars.Road.backV (W := 1) hZ (own_words hw) (kI := 4) (hw _ (List.mem_of_getElem? (i := 7) rfl)) (cs := ([(nar .char (f1 p1)), (nar .char (f1 p2)), (nar .char (f1 p3)), (nar .char (f1 p4))] : List Int32)) (bs := (([(nar .char (f1 p1)), (nar .char (f1 p2)), (nar .char (f1 p3)), (nar .char (f1 p4))] : List Int32)).map (fun c => c.toInt8.toInt32)) (n := 4) g_b368 Z368 A368 Fvalue_b368 Fcoder_b368 Vf372 Sf369 P5 rfl rfl (by decide) (by decide) hp376 rfl (by decide) (by decide)) (g := (mkF m 135 #[.val (.int p0), .val (.int p1), .val (.int p2), .val (.int p3), .val (.int p4), .val (.int (4 : Int32)), .val (.int (f1 p1)), .val (.int (f1 p2)), .val (.int (f1 p3)), .val (.int (f1 p4)), .val (.ref b339), .unset, .unset] [(.ref b339), (.ref b368), (.ref b368)])) rfl (by rw [hml]; rfl) (Steps.refl _) (a := b368) (argsL := [(.ref b339)]) (rest := [(.ref b368)]) (lenOf pd_3 rfl) rfl (by show 2 * 0 + _ ≤ _; exact Nat.le_of_eq rfl) (hb hby at_135) (fun _ _ => ⟨rfl, e368, (by decide : 2 + 1 ≤ _), (by decide : 8 + 4 ≤ _)⟩)
    dsimp only [Pt.U, Pt.locs, Pt.cells, Pt.slots] at X375 l375 y375 z375 st375 hQ375
    subst l375 y375 z375
    obtain ⟨h375, e375⟩ : ∃ h, T375.heap = h := ⟨_, rfl⟩
    rw [e375] at hQ375
    obtain ⟨rfl, N375q, K375q, QE375, QC375, t375, kt375, g_t375, y_t375, ne375, QV375, QB375⟩ := hQ375
    have N375 := Fr.app N362 N375q
    have ne_b339_t375 : b339 ≠ t375 := Nat.ne_of_lt (Nat.lt_of_lt_of_le (Ef371).lt y_t375)
    have ne_b368_t375 : b368 ≠ t375 := Nat.ne_of_lt (Nat.lt_of_lt_of_le (A368).lt y_t375)
    have sz_t375 : h0.size ≤ t375 := Nat.le_trans K368.1 y_t375
    have Z375 : n0 ≤ h375.size := Nat.le_trans Z368 K375q.1
    have K375 : Keep h0 h375 [] := K368.trans K375q (fun x hx => by cases List.mem_singleton.mp hx; exact Or.inr sz_b368)
    have Sf377 : Sta Z h375 "java/lang/String" "COMPACT_STRINGS" "Z" (.int gc1) := own_sta_keep Sf369 K375q (own_ns1 (own_ns_exa A368))
    have Sf378 : Sta Z h375 "jdk/internal/util/Preconditions" "SIOOBE_FORMATTER" "Ljava/util/function/BiFunction;" gf3 := own_sta_keep Sf370 K375q (own_ns1 (own_ns_exa A368))
    have Ef379 : Exa Z h375 b339 "[C" := (Ef371).keep K375q
    have Vf380 : Arv Z h375 b339 k339 .char (4 : Int32) [(.int (nar .char (f1 p1))), (.int (nar .char (f1 p2))), (.int (nar .char (f1 p3))), (.int (nar .char (f1 p4)))] (.int (0 : Int32)) := (Vf372).keep K375q (fun q => absurd (List.mem_singleton.mp q) ne_b339_b368)
    have hcd375 : StrChars.Road.CodA ([(nar .char (f1 p1)), (nar .char (f1 p2)), (nar .char (f1 p3)), (nar .char (f1 p4))] : List Int32) 0 (4 : Int32) ((([(nar .char (f1 p1)), (nar .char (f1 p2)), (nar .char (f1 p3)), (nar .char (f1 p4))] : List Int32).map (fun c => c.toInt8.toInt32)).map Value.int) := StrChars.Road.codOf (n := 4) rfl (fun x hx => (hp376 x hx).2)
    have hbd375 := own_up _ hp376
    have pre381 : ∀ t, Steps p.tables e below (T375.setTop (mkF m 138 #[.val (.int p0), .val (.int p1), .val (.int p2), .val (.int p3), .val (.int p4), .val (.int (4 : Int32)), .val (.int (f1 p1)), .val (.int (f1 p2)), .val (.int (f1 p3)), .val (.int (f1 p4)), .val (.ref b339), .unset, .unset] [(.ref b368)])) t → Steps p.tables e below (s₁.setTop (entryFrame m #[(.int p0), (.int p1), (.int p2), (.int p3), (.int p4)] maxLocals)) t := fun t k => pre374 t (st375.trans k)
    have pre382 : ∀ t, Steps p.tables e below (T375.setTop (mkF m 142 #[.val (.int p0), .val (.int p1), .val (.int p2), .val (.int p3), .val (.int p4), .val (.int (4 : Int32)), .val (.int (f1 p1)), .val (.int (f1 p2)), .val (.int (f1 p3)), .val (.int (f1 p4)), .val (.ref b339), .val (.ref b368), .unset] [(.ref b368)])) t → Steps p.tables e below (s₁.setTop (entryFrame m #[(.int p0), (.int p1), (.int p2), (.int p3), (.int p4)] maxLocals)) t := by
      intro t k
      refine pre381 t ?_
      show Steps p.tables e below (T375.setTop (mkF m 138 #[.val (.int p0), .val (.int p1), .val (.int p2), .val (.int p3), .val (.int p4), .val (.int (4 : Int32)), .val (.int (f1 p1)), .val (.int (f1 p2)), .val (.int (f1 p3)), .val (.int (f1 p4)), .val (.ref b339), .unset, .unset] [(.ref b368)])) _
      refine XS.astore X375.here hx rfl (hb hby at_138) rfl rfl (l' := #[.val (.int p0), .val (.int p1), .val (.int p2), .val (.int p3), .val (.int p4), .val (.int (4 : Int32)), .val (.int (f1 p1)), .val (.int (f1 p2)), .val (.int (f1 p3)), .val (.int (f1 p4)), .val (.ref b339), .val (.ref b368), .unset]) rfl ?_
      refine XS.aload X375.here hx rfl (hb hby at_140) rfl rfl ?_
      exact k
    obtain ⟨_, _, ⟨T383, L383, k383, n383⟩, -, X383, ⟨Lc383, hQ383, l383, y383, z383⟩, st383⟩ := Jvm.LawKit.callS X375 hx (y := (⟨"com/example/loomfilter/loomfilter/core/Layout", "checkName", "(Ljava/lang/String;)Ljava/lang/String;"⟩ : MethodName)) hown (mvT hZ (hw _ (List.mem_of_getElem? (i := 35) rfl))) (mvT hZ (hw _ (List.mem_of_getElem? (i := 36) rfl))) (mvT hZ (hw _ (List.mem_of_getElem? (i := 37) rfl))) (mvT hZ (hw _ (List.mem_of_getElem? (i := 38) rfl))) (by decide) (backOf (W := 0) (rm8 l Z ar0 hw [] b368 ([(nar .char (f1 p1)), (nar .char (f1 p2)), (nar .char (f1 p3)), (nar .char (f1 p4))]) (4 : Int32) gc1 gf3 t375 kt375 h375 n0 Z375 P5 rG3 hcd375 hbd375 (Nat.le_of_ble_eq_true rfl) (own_hok4 p1 p2 p3 p4) (Nat.le_of_ble_eq_true rfl) (Nat.le_of_ble_eq_true rfl) Sf377 Sf378 QE375 QV375 QC375 QB375) hZ (hw _ (List.mem_of_getElem? (i := 38) rfl)) (hw _ (List.mem_of_getElem? (i := 37) rfl)) (by decide) (by decide)) (g := (mkF m 142 #[.val (.int p0), .val (.int p1), .val (.int p2), .val (.int p3), .val (.int p4), .val (.int (4 : Int32)), .val (.int (f1 p1)), .val (.int (f1 p2)), .val (.int (f1 p3)), .val (.int (f1 p4)), .val (.ref b339), .val (.ref b368), .unset] [(.ref b368)])) rfl (by rw [hml]; rfl) (argsL := [(.ref b368)]) (rest := []) (lenOf pd_4 rfl) rfl (by show 2 * 0 + _ ≤ _; exact Nat.le_of_eq rfl) (hb hby at_142) (fun _ _ => ⟨rfl, e375, (by decide : 3 + 0 ≤ _), (by decide : 12 + 0 ≤ _)⟩)
    dsimp only [Pt.U, Pt.locs, Pt.cells, Pt.slots] at X383 l383 y383 z383 st383 hQ383
    subst l383 y383 z383
    obtain ⟨rfl, N383q, e383⟩ := hQ383
    have N383 := Fr.app N375 N383q
    have pre384 : ∀ t, Steps p.tables e below (T383.setTop (mkF m 145 #[.val (.int p0), .val (.int p1), .val (.int p2), .val (.int p3), .val (.int p4), .val (.int (4 : Int32)), .val (.int (f1 p1)), .val (.int (f1 p2)), .val (.int (f1 p3)), .val (.int (f1 p4)), .val (.ref b339), .val (.ref b368), .unset] [(.ref b368)])) t → Steps p.tables e below (s₁.setTop (entryFrame m #[(.int p0), (.int p1), (.int p2), (.int p3), (.int p4)] maxLocals)) t := fun t k => pre382 t (st383 t k)
    have pre385 : ∀ t, Steps p.tables e below (T383.setTop (mkF m 156 #[.val (.int p0), .val (.int p1), .val (.int p2), .val (.int p3), .val (.int p4), .val (.int (4 : Int32)), .val (.int (f1 p1)), .val (.int (f1 p2)), .val (.int (f1 p3)), .val (.int (f1 p4)), .val (.ref b339), .val (.ref b368), .val (.ref b368)] [(.ref b368)])) t → Steps p.tables e below (s₁.setTop (entryFrame m #[(.int p0), (.int p1), (.int p2), (.int p3), (.int p4)] maxLocals)) t := by
      intro t k
      refine pre384 t ?_
      show Steps p.tables e below (T383.setTop (mkF m 145 #[.val (.int p0), .val (.int p1), .val (.int p2), .val (.int p3), .val (.int p4), .val (.int (4 : Int32)), .val (.int (f1 p1)), .val (.int (f1 p2)), .val (.int (f1 p3)), .val (.int (f1 p4)), .val (.ref b339), .val (.ref b368), .unset] [(.ref b368)])) _
      refine XS.astore X383.here hx rfl (hb hby at_145) rfl rfl (l' := #[.val (.int p0), .val (.int p1), .val (.int p2), .val (.int p3), .val (.int p4), .val (.int (4 : Int32)), .val (.int (f1 p1)), .val (.int (f1 p2)), .val (.int (f1 p3)), .val (.int (f1 p4)), .val (.ref b339), .val (.ref b368), .val (.ref b368)]) rfl ?_
      refine XS.aload X383.here hx rfl (hb hby at_147) rfl rfl ?_
      refine XS.aload X383.here hx rfl (hb hby at_149) rfl rfl ?_
      refine Jvm.RoadKit.acmp (g := (mkF m 151 #[.val (.int p0), .val (.int p1), .val (.int p2), .val (.int p3), .val (.int p4), .val (.int (4 : Int32)), .val (.int (f1 p1)), .val (.int (f1 p2)), .val (.int (f1 p3)), .val (.int (f1 p4)), .val (.ref b339), .val (.ref b368), .val (.ref b368)] [(.ref b368), (.ref b368)])) X383 hx rfl rfl rfl (pc0 := 151) (pc' := 154) (same := true) rfl (hb hby at_151) rfl (decide_eq_true rfl) (by decide) (by decide) ?_
      refine XS.aload X383.here hx rfl (hb hby at_154) rfl rfl ?_
      exact k
    obtain ⟨cq386, kq386, q386a, q386b, q386c⟩ := isOf hZ e383 QE375
    obtain ⟨_, _, ⟨T386, L386, k386, n386⟩, -, X386, ⟨Lc386, hQ386, l386, y386, z386⟩, st386⟩ := X383.virtualBack hx (y := (⟨"java/lang/String", "length", "()I"⟩ : MethodName)) (z := (⟨"java/lang/String", "length", "()I"⟩ : MethodName)) hown (mvT hZ (hw _ (List.mem_of_getElem? (i := 76) rfl))) (mvT hZ (hw _ (List.mem_of_getElem? (i := 45) rfl))) (notFace_of_selects (args := #[]) (mvT hZ (hw _ (List.mem_of_getElem? (i := 47) rfl)))) (mvT hZ (hw _ (List.mem_of_getElem? (i := 47) rfl))) (mvT hZ (hw _ (List.mem_of_getElem? (i := 46) rfl))) (by decide) (StrChars.Road.lenW (W := 0) hZ (own_wordsLen hw) (kI := 4) (hw _ (List.mem_of_getElem? (i := 7) rfl)) QE375 QV375 QC375 QB375 hcd375 hbd375 Sf377 P5 (Nat.le_of_ble_eq_true rfl) (by decide) (by decide)) q386a q386c (g := (mkF m 156 #[.val (.int p0), .val (.int p1), .val (.int p2), .val (.int p3), .val (.int p4), .val (.int (4 : Int32)), .val (.int (f1 p1)), .val (.int (f1 p2)), .val (.int (f1 p3)), .val (.int (f1 p4)), .val (.ref b339), .val (.ref b368), .val (.ref b368)] [(.ref b368)])) rfl (by rw [hml]; rfl) (Steps.refl _) (argsL := []) (rest := []) (lenOf pd_0 rfl) rfl (by show 2 * 0 + _ ≤ _; exact Nat.le_of_eq rfl) (hb hby at_156) (fun _ _ => ⟨rfl, e383, (by decide : 3 + 0 ≤ _), (by decide : 12 + 0 ≤ _)⟩)
    dsimp only [Pt.U, Pt.locs, Pt.cells, Pt.slots] at X386 l386 y386 z386 st386 hQ386
    subst l386 y386 z386
    obtain ⟨rfl, rfl, e386⟩ := hQ386
    try rw [List.append_nil] at X386
    have pre387 : ∀ t, Steps p.tables e below (T386.setTop (mkF m 159 #[.val (.int p0), .val (.int p1), .val (.int p2), .val (.int p3), .val (.int p4), .val (.int (4 : Int32)), .val (.int (f1 p1)), .val (.int (f1 p2)), .val (.int (f1 p3)), .val (.int (f1 p4)), .val (.ref b339), .val (.ref b368), .val (.ref b368)] [(.int (4 : Int32))])) t → Steps p.tables e below (s₁.setTop (entryFrame m #[(.int p0), (.int p1), (.int p2), (.int p3), (.int p4)] maxLocals)) t := fun t k => pre385 t (st386.trans k)
    have pre388 : ∀ t, Steps p.tables e below (T386.setTop (mkF m 167 #[.val (.int p0), .val (.int p1), .val (.int p2), .val (.int p3), .val (.int p4), .val (.int (4 : Int32)), .val (.int (f1 p1)), .val (.int (f1 p2)), .val (.int (f1 p3)), .val (.int (f1 p4)), .val (.ref b339), .val (.ref b368), .val (.ref b368)] [(.int (0 : Int32)), (.ref b368)])) t → Steps p.tables e below (s₁.setTop (entryFrame m #[(.int p0), (.int p1), (.int p2), (.int p3), (.int p4)] maxLocals)) t := by
      intro t k
      refine pre387 t ?_
      show Steps p.tables e below (T386.setTop (mkF m 159 #[.val (.int p0), .val (.int p1), .val (.int p2), .val (.int p3), .val (.int p4), .val (.int (4 : Int32)), .val (.int (f1 p1)), .val (.int (f1 p2)), .val (.int (f1 p3)), .val (.int (f1 p4)), .val (.ref b339), .val (.ref b368), .val (.ref b368)] [(.int (4 : Int32))])) _
      refine XS.iload X386.here hx rfl (hb hby at_159) rfl ?_
      refine XS.icmpNo X386.here hx rfl (hb hby at_161) rfl (teq (by decide : (4 : Int32) = (4 : Int32))).2 ?_
      refine XS.aload X386.here hx rfl (hb hby at_164) rfl rfl ?_
      refine XS.iconst X386.here hx rfl (hb hby at_166) ?_
      exact k
    obtain ⟨cq389, kq389, q389a, q389b, q389c⟩ := isOf hZ e386 QE375
    obtain ⟨_, _, ⟨T389, L389, k389, n389⟩, -, X389, ⟨Lc389, hQ389, l389, y389, z389⟩, st389⟩ := X386.virtualBack hx (y := (⟨"java/lang/String", "charAt", "(I)C"⟩ : MethodName)) (z := (⟨"java/lang/String", "charAt", "(I)C"⟩ : MethodName)) hown (mvT hZ (hw _ (List.mem_of_getElem? (i := 77) rfl))) (mvT hZ (hw _ (List.mem_of_getElem? (i := 55) rfl))) (notFace_of_selects (args := #[]) (mvT hZ (hw _ (List.mem_of_getElem? (i := 57) rfl)))) (mvT hZ (hw _ (List.mem_of_getElem? (i := 57) rfl))) (mvT hZ (hw _ (List.mem_of_getElem? (i := 56) rfl))) (by decide) (StrChars.Road.chN (W := 0) hZ (own_wordsChN hw) (kI := 4) (hw _ (List.mem_of_getElem? (i := 7) rfl)) QE375 QV375 QC375 QB375 hcd375 hbd375 Sf377 P5 Sf378 rG3 (Nat.le_of_ble_eq_true rfl) (i := 0) (Nat.le_of_ble_eq_true rfl) (j := (0 : Int32)) rfl (by decide) (by decide)) q389a q389c (g := (mkF m 167 #[.val (.int p0), .val (.int p1), .val (.int p2), .val (.int p3), .val (.int p4), .val (.int (4 : Int32)), .val (.int (f1 p1)), .val (.int (f1 p2)), .val (.int (f1 p3)), .val (.int (f1 p4)), .val (.ref b339), .val (.ref b368), .val (.ref b368)] [(.int (0 : Int32)), (.ref b368)])) rfl (by rw [hml]; rfl) (Steps.refl _) (argsL := [(.int (0 : Int32))]) (rest := []) (lenOf pd_1 rfl) rfl (by show 2 * 0 + _ ≤ _; exact Nat.le_of_eq rfl) (hb hby at_167) (fun _ _ => ⟨rfl, e386, (by decide : 3 + 0 ≤ _), (by decide : 12 + 0 ≤ _)⟩)
    dsimp only [Pt.U, Pt.locs, Pt.cells, Pt.slots] at X389 l389 y389 z389 st389 hQ389
    subst l389 y389 z389
    obtain ⟨rfl, rfl, e389⟩ := hQ389
    try rw [List.append_nil] at X389
    have pre390 : ∀ t, Steps p.tables e below (T389.setTop (mkF m 170 #[.val (.int p0), .val (.int p1), .val (.int p2), .val (.int p3), .val (.int p4), .val (.int (4 : Int32)), .val (.int (f1 p1)), .val (.int (f1 p2)), .val (.int (f1 p3)), .val (.int (f1 p4)), .val (.ref b339), .val (.ref b368), .val (.ref b368)] [(.int (nar .char (f1 p1)))])) t → Steps p.tables e below (s₁.setTop (entryFrame m #[(.int p0), (.int p1), (.int p2), (.int p3), (.int p4)] maxLocals)) t := fun t k => pre388 t (st389.trans k)
    have pre391 : ∀ t, Steps p.tables e below (T389.setTop (mkF m 172 #[.val (.int p0), .val (.int p1), .val (.int p2), .val (.int p3), .val (.int p4), .val (.int (4 : Int32)), .val (.int (f1 p1)), .val (.int (f1 p2)), .val (.int (f1 p3)), .val (.int (f1 p4)), .val (.ref b339), .val (.ref b368), .val (.ref b368)] [(.int (f1 p1)), (.int (nar .char (f1 p1)))])) t → Steps p.tables e below (s₁.setTop (entryFrame m #[(.int p0), (.int p1), (.int p2), (.int p3), (.int p4)] maxLocals)) t := by
      intro t k
      refine pre390 t ?_
      show Steps p.tables e below (T389.setTop (mkF m 170 #[.val (.int p0), .val (.int p1), .val (.int p2), .val (.int p3), .val (.int p4), .val (.int (4 : Int32)), .val (.int (f1 p1)), .val (.int (f1 p2)), .val (.int (f1 p3)), .val (.int (f1 p4)), .val (.ref b339), .val (.ref b368), .val (.ref b368)] [(.int (nar .char (f1 p1)))])) _
      refine XS.iload X389.here hx rfl (hb hby at_170) rfl ?_
      exact k
    by_cases hc172_392 : (nar .char (f1 p1)) = (f1 p1)
    · obtain ⟨fs, hr, hrun, hended, hW, hsame⟩ := X389.leave (v := some (.int (1 : Int32))) (fun h => by rw [Bd.returns] at h; cases h)
      refine ⟨_, _, pre391 _ ?_, hrun, hended, _, _, rfl, ?_, ⟨_, rfl⟩, hW, hsame.mono (by decide) (by decide)⟩
      · show Steps p.tables e below (T389.setTop (mkF m 172 #[.val (.int p0), .val (.int p1), .val (.int p2), .val (.int p3), .val (.int p4), .val (.int (4 : Int32)), .val (.int (f1 p1)), .val (.int (f1 p2)), .val (.int (f1 p3)), .val (.int (f1 p4)), .val (.ref b339), .val (.ref b368), .val (.ref b368)] [(.int (f1 p1)), (.int (nar .char (f1 p1)))])) _
        refine XS.icmpNo X389.here hx rfl (hb hby at_172) rfl (teq hc172_392).2 ?_
        refine XS.iconst X389.here hx rfl (hb hby at_175) ?_
        refine XS.goto X389.here hx rfl (pc0 := 176) (pc' := 180) rfl (hb hby at_176) (by decide) (by decide) ?_
        exact retN X389 hx (t := .boolean) Bd.returns (by simp) (hb hby at_180) hr
      · show Q0 Z p0 p1 p2 p3 p4 gc1 gf3 h0 n0 _ T389.heap _
        rw [e389]
        exact ⟨rfl, N383⟩
    · have pre393 : ∀ t, Steps p.tables e below (T389.setTop (mkF m 180 #[.val (.int p0), .val (.int p1), .val (.int p2), .val (.int p3), .val (.int p4), .val (.int (4 : Int32)), .val (.int (f1 p1)), .val (.int (f1 p2)), .val (.int (f1 p3)), .val (.int (f1 p4)), .val (.ref b339), .val (.ref b368), .val (.ref b368)] [(.int (0 : Int32))])) t → Steps p.tables e below (s₁.setTop (entryFrame m #[(.int p0), (.int p1), (.int p2), (.int p3), (.int p4)] maxLocals)) t := by
        intro t k
        refine pre391 t ?_
        show Steps p.tables e below (T389.setTop (mkF m 172 #[.val (.int p0), .val (.int p1), .val (.int p2), .val (.int p3), .val (.int p4), .val (.int (4 : Int32)), .val (.int (f1 p1)), .val (.int (f1 p2)), .val (.int (f1 p3)), .val (.int (f1 p4)), .val (.ref b339), .val (.ref b368), .val (.ref b368)] [(.int (f1 p1)), (.int (nar .char (f1 p1)))])) _
        refine XS.icmpYes X389.here hx rfl (pc0 := 172) (pc' := 179) rfl (hb hby at_172) rfl (feq hc172_392).2 (by decide) (by decide) ?_
        refine XS.iconst X389.here hx rfl (hb hby at_179) ?_
        exact k
      exact (own_leaf4 rG3 P5 hv155 hc172_392).elim
set_option maxRecDepth 65536 in
set_option maxHeartbeats 40000000 in
theorem comes_1 {Post : Tables → Env → Array Value → State → Outcome → State → Prop} (hpost : ∀ tb e args s v u, (limb_1_1.after args s (.returned v) u = true ∧ limb_1_2.after args s (.returned v) u = true ∧ True) → FrameEnd s (.returned v) u (Jvm.fieldLocs frame_1_writes args s ++ Jvm.arrayLocs frame_1_arrays args s ++ Jvm.staticLocs frame_1_statics s) 16 128 → Post tb e args s (.returned v) u) :
    ArmFor flags0 classFile x code maxLocals ret World_1 tables_1 room_1 Calls_1 rest_1 Pre_1 Post := by
  intro l hfl _ _ p e ha hc hk s m args below hf hA hF happ hP
  obtain ⟨hcalls, hrest, hpre⟩ := hP
  obtain ⟨-, -, -, hnamed, -, -, -, hat⟩ := (Spec.applies_iff hf).mp happ
  obtain ⟨hg, hn⟩ := and_e (Cond.before_iff.mp (show (Jvm.Cond.and given_1 narrow_1).before args s = true from hpre))
  obtain ⟨hcount, hg0⟩ := and_e hg
  obtain ⟨ha0, hg1⟩ := and_e hg0
  obtain ⟨ha1, hg2⟩ := and_e hg1
  obtain ⟨ha2, hg3⟩ := and_e hg2
  obtain ⟨ha3, hg4⟩ := and_e hg3
  have ha4 := hg4
  obtain ⟨w0, w1, w2, w3, w4, rfl⟩ : ∃ w0 w1 w2 w3 w4 : Value, args = #[w0, w1, w2, w3, w4] := by
    have hs : args.size = 5 := by simpa [Cond.value, given_1] using hcount
    obtain ⟨L⟩ := args
    match L, hs with
    | [w0, w1, w2, w3, w4], _ => exact ⟨w0, w1, w2, w3, w4, rfl⟩
  have hw := fun d (hd : d ∈ tables_1) => atoms_spec (ws := Jvm.Cond.code x code maxLocals ret :: tables_1) hat d (List.mem_cons_of_mem _ hd)
  have hfit : Fit s := fun {y c} hc i hi => by
    obtain ⟨ha, rfl⟩ := Array.getElem?_eq_some_iff.mp hc
    have q := List.all_eq_true.mp ((Array.all_eq_true_iff_forall_mem.mp hF) _ (Array.getElem_mem ha)) i (List.mem_range.mpr hi)
    simpa [Array.getElem?_eq_getElem hi] using q
  obtain ⟨hsets, hown0⟩ := atoms_of _ (rest_1_c_eq ▸ (show rest_1_c.before _ s = true from hrest))
  have hr0 := Cond.before_iff.mp hown0
  obtain ⟨i0, ei0⟩ := is_v ha0
  obtain rfl : w0 = (.int i0) := Option.some.inj ei0
  obtain ⟨i1, ei1⟩ := is_v ha1
  obtain rfl : w1 = (.int i1) := Option.some.inj ei1
  obtain ⟨i2, ei2⟩ := is_v ha2
  obtain rfl : w2 = (.int i2) := Option.some.inj ei2
  obtain ⟨i3, ei3⟩ := is_v ha3
  obtain rfl : w3 = (.int i3) := Option.some.inj ei3
  obtain ⟨i4, ei4⟩ := is_v ha4
  obtain rfl : w4 = (.int i4) := Option.some.inj ei4
  have hj0 := hsets _ (List.mem_of_getElem? (i := 0) rfl)
  have hj1 := Cond.before_iff.mp (hsets _ (List.mem_of_getElem? (i := 1) rfl))
  have hj2 := Cond.before_iff.mp (hsets _ (List.mem_of_getElem? (i := 2) rfl))
  have hj7 := hsets _ (List.mem_of_getElem? (i := 7) rfl)
  have hj8 := Cond.before_iff.mp (hsets _ (List.mem_of_getElem? (i := 8) rfl))
  obtain ⟨gc1, hG1⟩ := is_v hj1
  have S1 := Sta.start hG1 (Or.inl hj0)
  have P5 := own_neI hG1 hj2
  obtain ⟨gf3, hG3, rG3⟩ := isR_v hj8
  have S2 := Sta.start hG3 (Or.inl hj7)
  obtain ⟨n, o, h1, h2, h3, _, L, rfl, ⟨rfl, N⟩, hq⟩ := rm0 l s _ hw tables_1 i0 i1 i2 i3 i4 gc1 gf3 s.heap s.heap.size (Nat.le_refl _) P5 rG3 S1 S2 p e ha hc hk s m _ below hf ((Spec.applies_iff_loose hf).mp happ).1 ⟨rfl, State.Warmed39.refl s, rfl⟩ trivial
  refine ⟨n, _, h1, h2, h3, hpost _ _ _ _ _ _ ⟨Cond.after_iff.mpr rfl, Cond.after_iff.mpr (eq_i res_at (Term.int_eval (1)) rfl), trivial⟩ ⟨hq.1, hq.2.1, (hq.2.2.sift fun y hy => Or.inr (N y hy)).mono (by decide) (by decide)⟩⟩
theorem main_1_1 : Claimed_1_1 := comes_1 fun _ _ _ _ _ _ h hF => ⟨h.1, hF⟩
theorem main_1_2 : Claimed_1_2 := comes_1 fun _ _ _ _ _ _ h hF => ⟨h.2.1, hF⟩
end Jvm.Pilot.@@N@@
namespace Jvm.Pilot.@@N@@
open Jvm Jvm.ClassFile Sem Op Lib Jvm.Free Jvm.Stand Jvm.Pilot.@@N@@.Jvm.D
/-! MADE BY PROGRAM (witnessworld.py) out of the Statement's table words and the real class files: 20 classes; the members and pool entries that the words name. The judged class is class 1, her method 2. -/
namespace start1
open Jvm.ClassFile
def u (s : String) : CpInfo := .utf8 (stringToUtf16 s)
/-- a pool by its gaps: so many unusable entries, then the entry; so many at the end -/
def gap : Nat → List CpInfo → List CpInfo
  | 0, r => r
  | n + 1, r => .unusable :: gap n r
def poolList (es : List (Nat × CpInfo)) (last : Nat) : List CpInfo := es.foldr (fun e r => gap e.1 (e.2 :: r)) (gap last [])
def pool (es : List (Nat × CpInfo)) (last : Nat) : Array CpInfo := ⟨poolList es last⟩
def fileOf (pool : Array CpInfo) (this : Nat) (attrs : Array Attribute := #[]) (ms : Array MethodInfo := #[]) (fl : Nat := 33) (sup : Nat := 0) (ifs : Array Nat := #[]) (fds : Array FieldInfo := #[]) : ClassFile where
  minorVersion := 0
  majorVersion := 65
  constantPool := pool
  accessFlags := fl
  thisClass := this
  superClass := sup
  interfaces := ifs
  fields := fds
  methods := ms
  attributes := attrs
def plain (name : String) (sup : Option ClassId) : Class where
  name := name
  kind := .ordinary
  loader := none
  accessFlags := 33
  super := sup
  interfaces := #[]
  cf := none
  fields := #[]
  methods := #[]
  instanceTypes := #[]
  staticTypes := #[]
  resolved := #[]
  callSites := []
  init := .initialized
  statics := none
  mirror := none

def pool0 : Array CpInfo := pool [(5, u "<init>"), (0, u "()V"), (1, .class_ 10), (1, u "java/lang/Object")] 113

def k0c0 : Code := { maxStack := 0, maxLocals := 1, code := object_method_1_code, exceptionTable := #[], attributes := #[] }
def k0m0 : Method := { name := "<init>", desc := "()V", sig := { parameters := [], returnType := none }, accessFlags := 1, code := some k0c0 }
/-- java/lang/Object -/
def k0 : Class := { plain "java/lang/Object" none with
  accessFlags := 33
  interfaces := #[]
  cf := some (fileOf pool0 8 #[] #[{ accessFlags := 1, nameIndex := 5, descriptorIndex := 6, attributes := #[] }] 33 0 #[] #[])
  fields := #[]
  methods := #[k0m0]
  instanceTypes := #[]
  staticTypes := #[]
  resolved := Array.replicate 124 none
  statics := none }

def pool1 : Array CpInfo := pool [(2, .class_ 4), (1, u "java/lang/Object"), (0, u "<init>"), (0, u "()V"), (0, .integer 2147483647), (0, .methodref 9 10), (0, .class_ 11), (0, .nameAndType 12 13), (0, u "com/example/loomfilter/loomfilter/core/LayoutCheckNamePinLaw"), (0, u "allowed"), (0, u "(I)C"), (0, .class_ 15), (0, u "java/lang/String"), (0, .methodref 14 17), (0, .nameAndType 5 18), (0, u "([C)V"), (0, .methodref 20 21), (0, .class_ 22), (0, .nameAndType 23 24), (0, u "com/example/loomfilter/loomfilter/core/Layout"), (0, u "checkName"), (0, u "(Ljava/lang/String;)Ljava/lang/String;"), (0, .methodref 14 26), (0, .nameAndType 27 28), (0, u "length"), (0, u "()I"), (0, .methodref 14 30), (0, .nameAndType 31 13), (0, u "charAt"), (3, u "law"), (0, u "(IIIII)Z")] 4

def k1m0 : Method := { name := "<init>", desc := "()V", sig := { parameters := [], returnType := none }, accessFlags := 2, code := none }
def k1c1 : Code := { maxStack := 3, maxLocals := 2, code := method_2_code, exceptionTable := #[], attributes := #[] }
def k1m1 : Method := { name := "allowed", desc := "(I)C", sig := { parameters := [.int], returnType := some .char }, accessFlags := 10, code := some k1c1 }
def k1c2 : Code := { maxStack := 4, maxLocals := 13, code := code, exceptionTable := #[], attributes := #[] }
def k1m2 : Method := { name := "law", desc := "(IIIII)Z", sig := { parameters := [.int, .int, .int, .int, .int], returnType := some .boolean }, accessFlags := 9, code := some k1c2 }
/-- com/example/loomfilter/loomfilter/core/LayoutCheckNamePinLaw -/
def k1 : Class := { plain "com/example/loomfilter/loomfilter/core/LayoutCheckNamePinLaw" (some 0) with
  accessFlags := 49
  interfaces := #[]
  cf := some (fileOf pool1 9 #[] #[{ accessFlags := 2, nameIndex := 5, descriptorIndex := 6, attributes := #[] }, { accessFlags := 10, nameIndex := 12, descriptorIndex := 13, attributes := #[] }, { accessFlags := 9, nameIndex := 35, descriptorIndex := 36, attributes := #[] }] 49 2 #[] #[])
  fields := #[]
  methods := #[k1m0, k1m1, k1m2]
  instanceTypes := #[]
  staticTypes := #[]
  resolved := Array.replicate 41 none
  statics := none }

def pool2 : Array CpInfo := pool [(1, .class_ 2), (0, u "java/io/Serializable"), (0, .class_ 4), (0, u "java/lang/Object")] 2

/-- java/io/Serializable -/
def k2 : Class := { plain "java/io/Serializable" (some 0) with
  accessFlags := 1537
  interfaces := #[]
  cf := some (fileOf pool2 1 #[] #[] 1537 3 #[] #[])
  fields := #[]
  methods := #[]
  instanceTypes := #[]
  staticTypes := #[]
  resolved := Array.replicate 7 none
  statics := none }

def pool3 : Array CpInfo := pool [(1, .class_ 2), (0, u "java/lang/Comparable"), (0, .class_ 4), (0, u "java/lang/Object")] 7

/-- java/lang/Comparable -/
def k3 : Class := { plain "java/lang/Comparable" (some 0) with
  accessFlags := 1537
  interfaces := #[]
  cf := some (fileOf pool3 1 #[] #[] 1537 3 #[] #[])
  fields := #[]
  methods := #[]
  instanceTypes := #[]
  staticTypes := #[]
  resolved := Array.replicate 12 none
  statics := none }

def pool4 : Array CpInfo := pool [(2, .class_ 4), (1, u "java/lang/CharSequence"), (42, .class_ 48), (0, u "java/lang/CharSequence$1CodePointIterator"), (10, .class_ 60), (0, u "java/lang/CharSequence$1CharIterator"), (5, .class_ 67), (0, u "java/lang/Object")] 63

/-- java/lang/CharSequence -/
def k4 : Class := { plain "java/lang/CharSequence" (some 0) with
  accessFlags := 1537
  interfaces := #[]
  cf := some (fileOf pool4 2 #[.nestMembers #[47, 59]] #[] 1537 66 #[] #[])
  fields := #[]
  methods := #[]
  instanceTypes := #[]
  staticTypes := #[]
  resolved := Array.replicate 131 none
  statics := none }

def pool5 : Array CpInfo := pool [(1, .class_ 2), (0, u "java/lang/constant/Constable"), (0, .class_ 4), (0, u "java/lang/Object")] 6

/-- java/lang/constant/Constable -/
def k5 : Class := { plain "java/lang/constant/Constable" (some 0) with
  accessFlags := 1537
  interfaces := #[]
  cf := some (fileOf pool5 1 #[] #[] 1537 3 #[] #[])
  fields := #[]
  methods := #[]
  instanceTypes := #[]
  staticTypes := #[]
  resolved := Array.replicate 11 none
  statics := none }

def pool6 : Array CpInfo := pool [(1, .class_ 2), (0, u "java/lang/constant/ConstantDesc"), (0, .class_ 4), (0, u "java/lang/Object")] 32

/-- java/lang/constant/ConstantDesc -/
def k6 : Class := { plain "java/lang/constant/ConstantDesc" (some 0) with
  accessFlags := 1537
  interfaces := #[]
  cf := some (fileOf pool6 1 #[] #[] 1537 3 #[] #[])
  fields := #[]
  methods := #[]
  instanceTypes := #[]
  staticTypes := #[]
  resolved := Array.replicate 37 none
  statics := none }

def pool7 : Array CpInfo := pool [(1, .methodref 2 3), (0, .class_ 4), (0, .nameAndType 5 6), (0, u "java/lang/Object"), (0, u "<init>"), (0, u "()V"), (2, .fieldref 10 11), (0, .class_ 12), (0, .nameAndType 13 14), (0, u "java/lang/String"), (0, u "value"), (0, u "[B"), (0, .fieldref 10 16), (0, .nameAndType 17 18), (0, u "coder"), (0, u "B"), (2, u "hash"), (0, u "I"), (2, u "hashIsZero"), (0, u "Z"), (0, .methodref 10 28), (0, .nameAndType 5 29), (0, u "([CIILjava/lang/Void;)V"), (8, .fieldref 10 39), (0, .nameAndType 40 26), (0, u "COMPACT_STRINGS"), (1, .class_ 44), (1, u "java/lang/StringUTF16"), (0, u "compress"), (1, .methodref 42 48), (0, .nameAndType 49 50), (0, u "coderFromArrayLen"), (0, u "([BI)B"), (56, .class_ 109), (1, u "java/lang/StringLatin1"), (32, u "()Z"), (34, .methodref 42 178), (0, .nameAndType 45 179), (0, u "([CII)[B"), (154, u "()I"), (0, .methodref 10 336), (0, .nameAndType 17 337), (0, u "()B"), (25, u "([BI)C"), (27, u "(II)V"), (35, u "(I)C"), (64, .methodref 10 493), (0, .nameAndType 494 142), (0, u "isLatin1"), (0, .methodref 107 496), (0, .nameAndType 497 363), (0, u "charAt"), (3, u "checkIndex"), (5, u "length"), (67, .class_ 576), (0, u "java/lang/CharSequence"), (22, u "CASE_INSENSITIVE_ORDER"), (0, u "Ljava/util/Comparator;"), (91, u "isEmpty"), (317, u "([C)V"), (42, .fieldref 1054 1055), (0, .class_ 1056), (0, .nameAndType 1057 1058), (0, u "jdk/internal/util/Preconditions"), (0, u "SIOOBE_FORMATTER"), (0, u "Ljava/util/function/BiFunction;"), (0, .methodref 1054 1060), (0, .nameAndType 501 1061), (0, u "(IILjava/util/function/BiFunction;)I"), (39, u "serialPersistentFields"), (0, u "[Ljava/io/ObjectStreamField;"), (0, .class_ 1104), (0, u "java/lang/String$CaseInsensitiveComparator"), (1, .class_ 1107), (0, u "java/io/Serializable"), (0, .class_ 1109), (0, u "java/lang/Comparable"), (0, .class_ 1111), (0, u "java/lang/constant/Constable"), (0, .class_ 1113), (0, u "java/lang/constant/ConstantDesc"), (2, u "serialVersionUID"), (0, u "J"), (3, u "REPL"), (0, u "C"), (2, u "LATIN1"), (1, u "UTF16")] 323

def k7m0 : Method := { name := "<init>", desc := "()V", sig := { parameters := [], returnType := none }, accessFlags := 1, code := none }
def k7c1 : Code := { maxStack := 5, maxLocals := 2, code := jdk_42_method_3_code, exceptionTable := #[], attributes := #[] }
def k7m1 : Method := { name := "<init>", desc := "([C)V", sig := { parameters := [(.array .char)], returnType := none }, accessFlags := 1, code := some k7c1 }
def k7c2 : Code := { maxStack := 2, maxLocals := 1, code := jdk_42_method_54_code, exceptionTable := #[], attributes := #[] }
def k7m2 : Method := { name := "length", desc := "()I", sig := { parameters := [], returnType := some .int }, accessFlags := 1, code := some k7c2 }
def k7c3 : Code := { maxStack := 1, maxLocals := 1, code := jdk_42_method_55_code, exceptionTable := #[], attributes := #[] }
def k7m3 : Method := { name := "isEmpty", desc := "()Z", sig := { parameters := [], returnType := some .boolean }, accessFlags := 1, code := some k7c3 }
def k7c4 : Code := { maxStack := 2, maxLocals := 2, code := jdk_42_method_56_code, exceptionTable := #[], attributes := #[] }
def k7m4 : Method := { name := "charAt", desc := "(I)C", sig := { parameters := [.int], returnType := some .char }, accessFlags := 1, code := some k7c4 }
def k7c5 : Code := { maxStack := 4, maxLocals := 6, code := jdk_42_method_149_code, exceptionTable := #[], attributes := #[] }
def k7m5 : Method := { name := "<init>", desc := "([CIILjava/lang/Void;)V", sig := { parameters := [(.array .char), .int, .int, (.object "java/lang/Void")], returnType := none }, accessFlags := 2, code := some k7c5 }
def k7c6 : Code := { maxStack := 1, maxLocals := 1, code := jdk_42_method_152_code, exceptionTable := #[], attributes := #[] }
def k7m6 : Method := { name := "coder", desc := "()B", sig := { parameters := [], returnType := some .byte }, accessFlags := 0, code := some k7c6 }
def k7c7 : Code := { maxStack := 1, maxLocals := 1, code := jdk_42_method_154_code, exceptionTable := #[], attributes := #[] }
def k7m7 : Method := { name := "isLatin1", desc := "()Z", sig := { parameters := [], returnType := some .boolean }, accessFlags := 0, code := some k7c7 }
def k7c8 : Code := { maxStack := 3, maxLocals := 2, code := jdk_42_method_155_code, exceptionTable := #[], attributes := #[] }
def k7m8 : Method := { name := "checkIndex", desc := "(II)V", sig := { parameters := [.int, .int], returnType := none }, accessFlags := 8, code := some k7c8 }
/-- java/lang/String -/
def k7 : Class := { plain "java/lang/String" (some 0) with
  accessFlags := 49
  interfaces := #[2, 3, 4, 5, 6]
  cf := some (fileOf pool7 10 #[.nestMembers #[1103]] #[{ accessFlags := 1, nameIndex := 5, descriptorIndex := 6, attributes := #[] }, { accessFlags := 1, nameIndex := 5, descriptorIndex := 1010, attributes := #[] }, { accessFlags := 1, nameIndex := 507, descriptorIndex := 334, attributes := #[] }, { accessFlags := 1, nameIndex := 692, descriptorIndex := 142, attributes := #[] }, { accessFlags := 1, nameIndex := 497, descriptorIndex := 427, attributes := #[] }, { accessFlags := 2, nameIndex := 5, descriptorIndex := 29, attributes := #[] }, { accessFlags := 0, nameIndex := 17, descriptorIndex := 337, attributes := #[] }, { accessFlags := 0, nameIndex := 494, descriptorIndex := 142, attributes := #[] }, { accessFlags := 8, nameIndex := 501, descriptorIndex := 391, attributes := #[] }] 49 2 #[1106, 1108, 575, 1110, 1112] #[{ accessFlags := 18, nameIndex := 13, descriptorIndex := 14, attributes := #[] }, { accessFlags := 18, nameIndex := 17, descriptorIndex := 18, attributes := #[] }, { accessFlags := 2, nameIndex := 21, descriptorIndex := 22, attributes := #[] }, { accessFlags := 2, nameIndex := 25, descriptorIndex := 26, attributes := #[] }, { accessFlags := 26, nameIndex := 1116, descriptorIndex := 1117, attributes := #[] }, { accessFlags := 24, nameIndex := 40, descriptorIndex := 26, attributes := #[] }, { accessFlags := 26, nameIndex := 1101, descriptorIndex := 1102, attributes := #[] }, { accessFlags := 26, nameIndex := 1121, descriptorIndex := 1122, attributes := #[] }, { accessFlags := 25, nameIndex := 599, descriptorIndex := 600, attributes := #[] }, { accessFlags := 24, nameIndex := 1125, descriptorIndex := 18, attributes := #[] }, { accessFlags := 24, nameIndex := 1127, descriptorIndex := 18, attributes := #[] }])
  fields := #[{ name := "value", type := (.array .byte), accessFlags := 18, slot := 0, constantValue := 0 }, { name := "coder", type := .byte, accessFlags := 18, slot := 1, constantValue := 0 }, { name := "hash", type := .int, accessFlags := 2, slot := 2, constantValue := 0 }, { name := "hashIsZero", type := .boolean, accessFlags := 2, slot := 3, constantValue := 0 }, { name := "serialVersionUID", type := .long, accessFlags := 26, slot := 0, constantValue := 0 }, { name := "COMPACT_STRINGS", type := .boolean, accessFlags := 24, slot := 1, constantValue := 0 }, { name := "serialPersistentFields", type := (.array (.object "java/io/ObjectStreamField")), accessFlags := 26, slot := 2, constantValue := 0 }, { name := "REPL", type := .char, accessFlags := 26, slot := 3, constantValue := 0 }, { name := "CASE_INSENSITIVE_ORDER", type := (.object "java/util/Comparator"), accessFlags := 25, slot := 4, constantValue := 0 }, { name := "LATIN1", type := .byte, accessFlags := 24, slot := 5, constantValue := 0 }, { name := "UTF16", type := .byte, accessFlags := 24, slot := 6, constantValue := 0 }]
  methods := #[k7m0, k7m1, k7m2, k7m3, k7m4, k7m5, k7m6, k7m7, k7m8]
  instanceTypes := #[(.array .byte), .byte, .int, .boolean]
  staticTypes := #[.long, .boolean, (.array (.object "java/io/ObjectStreamField")), .char, (.object "java/util/Comparator"), .byte, .byte]
  resolved := Array.replicate 1451 none
  statics := some 0 }

def pool8 : Array CpInfo := pool [(6, .class_ 8), (1, u "java/lang/Object"), (0, u "<init>"), (0, u "()V"), (1, .class_ 14), (1, u "java/lang/StringUTF16"), (31, u "$assertionsDisabled"), (0, u "Z"), (13, u "HI_BYTE_SHIFT"), (0, u "I"), (2, u "LO_BYTE_SHIFT"), (49, .methodref 12 116), (0, .nameAndType 117 118), (0, u "compress"), (0, u "([CI[BII)I"), (3, u "([CII)[B"), (138, u "coderFromArrayLen"), (0, u "([BI)B"), (106, .class_ 371), (1, u "java/lang/StringUTF16$LinesSpliterator"), (58, u "MAX_LENGTH"), (196, .class_ 628), (0, u "java/lang/StringUTF16$CodePointsSpliterator"), (0, .class_ 630), (0, u "java/lang/StringUTF16$CharsSpliterator")] 4

def k8m0 : Method := { name := "<init>", desc := "()V", sig := { parameters := [], returnType := none }, accessFlags := 0, code := none }
def k8c1 : Code := { maxStack := 2, maxLocals := 2, code := jdk_52_method_15_code, exceptionTable := #[], attributes := #[] }
def k8m1 : Method := { name := "coderFromArrayLen", desc := "([BI)B", sig := { parameters := [(.array .byte), .int], returnType := some .byte }, accessFlags := 8, code := some k8c1 }
def k8c2 : Code := { maxStack := 5, maxLocals := 6, code := jdk_52_method_16_code, exceptionTable := #[], attributes := #[] }
def k8m2 : Method := { name := "compress", desc := "([CII)[B", sig := { parameters := [(.array .char), .int, .int], returnType := some (.array .byte) }, accessFlags := 9, code := some k8c2 }
def k8c3 : Code := { maxStack := 3, maxLocals := 7, code := jdk_52_method_21_code, exceptionTable := #[], attributes := #[] }
def k8m3 : Method := { name := "compress", desc := "([CI[BII)I", sig := { parameters := [(.array .char), .int, (.array .byte), .int, .int], returnType := some .int }, accessFlags := 9, code := some k8c3 }
/-- java/lang/StringUTF16 -/
def k8 : Class := { plain "java/lang/StringUTF16" (some 0) with
  accessFlags := 48
  interfaces := #[]
  cf := some (fileOf pool8 12 #[.nestMembers #[627, 629, 369]] #[{ accessFlags := 0, nameIndex := 9, descriptorIndex := 10, attributes := #[] }, { accessFlags := 8, nameIndex := 261, descriptorIndex := 262, attributes := #[] }, { accessFlags := 9, nameIndex := 117, descriptorIndex := 122, attributes := #[] }, { accessFlags := 9, nameIndex := 117, descriptorIndex := 118, attributes := #[] }] 48 6 #[] #[{ accessFlags := 26, nameIndex := 61, descriptorIndex := 62, attributes := #[] }, { accessFlags := 26, nameIndex := 65, descriptorIndex := 62, attributes := #[] }, { accessFlags := 24, nameIndex := 430, descriptorIndex := 62, attributes := #[] }, { accessFlags := 4120, nameIndex := 46, descriptorIndex := 47, attributes := #[] }])
  fields := #[{ name := "HI_BYTE_SHIFT", type := .int, accessFlags := 26, slot := 0, constantValue := 0 }, { name := "LO_BYTE_SHIFT", type := .int, accessFlags := 26, slot := 1, constantValue := 0 }, { name := "MAX_LENGTH", type := .int, accessFlags := 24, slot := 2, constantValue := 0 }, { name := "$assertionsDisabled", type := .boolean, accessFlags := 4120, slot := 3, constantValue := 0 }]
  methods := #[k8m0, k8m1, k8m2, k8m3]
  instanceTypes := #[]
  staticTypes := #[.int, .int, .int, .boolean]
  resolved := Array.replicate 635 none
  statics := none }

def pool9 : Array CpInfo := pool [(2, .class_ 4), (1, u "java/lang/Object"), (0, u "<init>"), (0, u "()V"), (0, .methodref 8 9), (0, .class_ 10), (0, .nameAndType 11 12), (0, u "java/lang/String"), (0, u "isEmpty"), (0, u "()Z"), (0, .methodref 8 14), (0, .nameAndType 15 16), (0, u "length"), (0, u "()I"), (0, .class_ 18), (0, u "com/example/loomfilter/loomfilter/core/Layout"), (17, .methodref 8 37), (0, .nameAndType 38 39), (0, u "charAt"), (0, u "(I)C"), (3, u "(Ljava/lang/String;)Ljava/lang/String;"), (23, u "VERSION"), (0, u "I"), (2, u "MAX_NAME_LENGTH"), (1, u "MAX_SHARD_BITS"), (0, u "J"), (2, u "ID_FIELD"), (0, u "Ljava/lang/String;"), (2, u "BITS_ID_FIELD"), (2, u "REBUILD_FIELD"), (2, u "PREFIX"), (4, u "checkName")] 28

def k9m0 : Method := { name := "<init>", desc := "()V", sig := { parameters := [], returnType := none }, accessFlags := 2, code := none }
def k9c1 : Code := { maxStack := 7, maxLocals := 4, code := prog_5_method_2_code, exceptionTable := #[], attributes := #[] }
def k9m1 : Method := { name := "checkName", desc := "(Ljava/lang/String;)Ljava/lang/String;", sig := { parameters := [(.object "java/lang/String")], returnType := some (.object "java/lang/String") }, accessFlags := 9, code := some k9c1 }
/-- com/example/loomfilter/loomfilter/core/Layout -/
def k9 : Class := { plain "com/example/loomfilter/loomfilter/core/Layout" (some 0) with
  accessFlags := 49
  interfaces := #[]
  cf := some (fileOf pool9 17 #[] #[{ accessFlags := 2, nameIndex := 5, descriptorIndex := 6, attributes := #[] }, { accessFlags := 9, nameIndex := 92, descriptorIndex := 43, attributes := #[] }] 49 2 #[] #[{ accessFlags := 25, nameIndex := 67, descriptorIndex := 68, attributes := #[] }, { accessFlags := 25, nameIndex := 71, descriptorIndex := 68, attributes := #[] }, { accessFlags := 25, nameIndex := 73, descriptorIndex := 74, attributes := #[] }, { accessFlags := 25, nameIndex := 77, descriptorIndex := 78, attributes := #[] }, { accessFlags := 25, nameIndex := 81, descriptorIndex := 78, attributes := #[] }, { accessFlags := 25, nameIndex := 84, descriptorIndex := 78, attributes := #[] }, { accessFlags := 26, nameIndex := 87, descriptorIndex := 78, attributes := #[] }])
  fields := #[{ name := "VERSION", type := .int, accessFlags := 25, slot := 0, constantValue := 0 }, { name := "MAX_NAME_LENGTH", type := .int, accessFlags := 25, slot := 1, constantValue := 0 }, { name := "MAX_SHARD_BITS", type := .long, accessFlags := 25, slot := 2, constantValue := 0 }, { name := "ID_FIELD", type := (.object "java/lang/String"), accessFlags := 25, slot := 3, constantValue := 0 }, { name := "BITS_ID_FIELD", type := (.object "java/lang/String"), accessFlags := 25, slot := 4, constantValue := 0 }, { name := "REBUILD_FIELD", type := (.object "java/lang/String"), accessFlags := 25, slot := 5, constantValue := 0 }, { name := "PREFIX", type := (.object "java/lang/String"), accessFlags := 26, slot := 6, constantValue := 0 }]
  methods := #[k9m0, k9m1]
  instanceTypes := #[]
  staticTypes := #[.int, .int, .long, (.object "java/lang/String"), (.object "java/lang/String"), (.object "java/lang/String"), (.object "java/lang/String")]
  resolved := Array.replicate 121 none
  statics := none }

def pool10 : Array CpInfo := pool [(1, .class_ 2), (0, u "java/lang/String"), (1, .class_ 6), (1, u "java/lang/Object"), (0, u "<init>"), (0, u "()V"), (0, .methodref 1 10), (0, .nameAndType 11 12), (0, u "checkIndex"), (0, u "(II)V"), (1, .class_ 16), (1, u "java/lang/StringLatin1"), (36, u "([BI)C"), (67, u "$assertionsDisabled"), (0, u "Z"), (98, .class_ 223), (1, u "java/lang/StringLatin1$LinesSpliterator"), (28, u "charAt"), (137, .class_ 391), (0, u "java/lang/StringLatin1$CharsSpliterator")] 3

def k10m0 : Method := { name := "<init>", desc := "()V", sig := { parameters := [], returnType := none }, accessFlags := 0, code := none }
def k10c1 : Code := { maxStack := 2, maxLocals := 2, code := jdk_43_method_2_code, exceptionTable := #[], attributes := #[] }
def k10m1 : Method := { name := "charAt", desc := "([BI)C", sig := { parameters := [(.array .byte), .int], returnType := some .char }, accessFlags := 9, code := some k10c1 }
/-- java/lang/StringLatin1 -/
def k10 : Class := { plain "java/lang/StringLatin1" (some 0) with
  accessFlags := 48
  interfaces := #[]
  cf := some (fileOf pool10 14 #[.nestMembers #[390, 221]] #[{ accessFlags := 0, nameIndex := 7, descriptorIndex := 8, attributes := #[] }, { accessFlags := 9, nameIndex := 252, descriptorIndex := 53, attributes := #[] }] 48 4 #[] #[{ accessFlags := 4120, nameIndex := 121, descriptorIndex := 122, attributes := #[] }])
  fields := #[{ name := "$assertionsDisabled", type := .boolean, accessFlags := 4120, slot := 0, constantValue := 0 }]
  methods := #[k10m0, k10m1]
  instanceTypes := #[]
  staticTypes := #[.boolean]
  resolved := Array.replicate 395 none
  statics := none }

def pool11 : Array CpInfo := pool [(2, .class_ 4), (1, u "java/lang/Object"), (0, u "<init>"), (0, u "()V"), (17, .class_ 26), (1, u "jdk/internal/util/Preconditions"), (6, u "checkIndex"), (21, .class_ 56), (0, u "jdk/internal/util/Preconditions$4"), (57, .class_ 115), (0, u "jdk/internal/util/Preconditions$1"), (7, u "SIOOBE_FORMATTER"), (0, u "Ljava/util/function/BiFunction;"), (0, .class_ 126), (0, u "jdk/internal/util/Preconditions$2"), (3, u "AIOOBE_FORMATTER"), (0, .class_ 132), (0, u "jdk/internal/util/Preconditions$3"), (3, u "IOOBE_FORMATTER"), (41, u "(IILjava/util/function/BiFunction;)I")] 15

def k11m0 : Method := { name := "<init>", desc := "()V", sig := { parameters := [], returnType := none }, accessFlags := 1, code := none }
def k11c1 : Code := { maxStack := 3, maxLocals := 3, code := jdk_41_method_11_code, exceptionTable := #[], attributes := #[] }
def k11m1 : Method := { name := "checkIndex", desc := "(IILjava/util/function/BiFunction;)I", sig := { parameters := [.int, .int, (.object "java/util/function/BiFunction")], returnType := some .int }, accessFlags := 9, code := some k11c1 }
/-- jdk/internal/util/Preconditions -/
def k11 : Class := { plain "jdk/internal/util/Preconditions" (some 0) with
  accessFlags := 33
  interfaces := #[]
  cf := some (fileOf pool11 24 #[.nestMembers #[55, 131, 125, 114]] #[{ accessFlags := 1, nameIndex := 5, descriptorIndex := 6, attributes := #[] }, { accessFlags := 9, nameIndex := 33, descriptorIndex := 178, attributes := #[] }] 33 2 #[] #[{ accessFlags := 25, nameIndex := 123, descriptorIndex := 124, attributes := #[] }, { accessFlags := 25, nameIndex := 130, descriptorIndex := 124, attributes := #[] }, { accessFlags := 25, nameIndex := 136, descriptorIndex := 124, attributes := #[] }])
  fields := #[{ name := "SIOOBE_FORMATTER", type := (.object "java/util/function/BiFunction"), accessFlags := 25, slot := 0, constantValue := 0 }, { name := "AIOOBE_FORMATTER", type := (.object "java/util/function/BiFunction"), accessFlags := 25, slot := 1, constantValue := 0 }, { name := "IOOBE_FORMATTER", type := (.object "java/util/function/BiFunction"), accessFlags := 25, slot := 2, constantValue := 0 }]
  methods := #[k11m0, k11m1]
  instanceTypes := #[]
  staticTypes := #[(.object "java/util/function/BiFunction"), (.object "java/util/function/BiFunction"), (.object "java/util/function/BiFunction")]
  resolved := Array.replicate 194 none
  statics := some 1 }

def pool12 : Array CpInfo := pool [(9, u "<init>"), (6, .class_ 18), (1, u "java/lang/Object"), (0, u "()V"), (1, .class_ 23), (1, u "jdk/internal/util/ArraysSupport"), (0, u "LOG2_ARRAY_LONG_INDEX_SCALE"), (0, u "I"), (2, u "U"), (0, u "Ljdk/internal/misc/Unsafe;"), (8, u "BIG_ENDIAN"), (0, u "Z"), (8, u "LOG2_BYTE_BIT_SIZE"), (4, u "LOG2_ARRAY_INT_INDEX_SCALE"), (54, u "JLA"), (0, u "Ljdk/internal/access/JavaLangAccess;"), (11, u "LOG2_ARRAY_BOOLEAN_INDEX_SCALE"), (9, u "LOG2_ARRAY_BYTE_INDEX_SCALE"), (5, u "LOG2_ARRAY_CHAR_INDEX_SCALE"), (5, u "LOG2_ARRAY_SHORT_INDEX_SCALE"), (18, u "LOG2_ARRAY_FLOAT_INDEX_SCALE"), (24, u "LOG2_ARRAY_DOUBLE_INDEX_SCALE"), (89, u "T_BOOLEAN"), (2, u "T_CHAR"), (1, u "T_FLOAT"), (1, u "T_DOUBLE"), (1, u "T_BYTE"), (1, u "T_SHORT"), (1, u "T_INT"), (1, u "T_LONG"), (1, u "SOFT_MAX_ARRAY_LENGTH")] 83

def k12m0 : Method := { name := "<init>", desc := "()V", sig := { parameters := [], returnType := none }, accessFlags := 2, code := none }
/-- jdk/internal/util/ArraysSupport -/
def k12 : Class := { plain "jdk/internal/util/ArraysSupport" (some 0) with
  accessFlags := 33
  interfaces := #[]
  cf := some (fileOf pool12 21 #[] #[{ accessFlags := 2, nameIndex := 9, descriptorIndex := 19, attributes := #[] }] 33 16 #[] #[{ accessFlags := 24, nameIndex := 28, descriptorIndex := 29, attributes := #[] }, { accessFlags := 26, nameIndex := 38, descriptorIndex := 39, attributes := #[] }, { accessFlags := 25, nameIndex := 121, descriptorIndex := 25, attributes := #[] }, { accessFlags := 25, nameIndex := 131, descriptorIndex := 25, attributes := #[] }, { accessFlags := 25, nameIndex := 137, descriptorIndex := 25, attributes := #[] }, { accessFlags := 25, nameIndex := 143, descriptorIndex := 25, attributes := #[] }, { accessFlags := 25, nameIndex := 53, descriptorIndex := 25, attributes := #[] }, { accessFlags := 25, nameIndex := 24, descriptorIndex := 25, attributes := #[] }, { accessFlags := 25, nameIndex := 162, descriptorIndex := 25, attributes := #[] }, { accessFlags := 25, nameIndex := 187, descriptorIndex := 25, attributes := #[] }, { accessFlags := 26, nameIndex := 48, descriptorIndex := 25, attributes := #[] }, { accessFlags := 25, nameIndex := 277, descriptorIndex := 25, attributes := #[] }, { accessFlags := 25, nameIndex := 280, descriptorIndex := 25, attributes := #[] }, { accessFlags := 25, nameIndex := 282, descriptorIndex := 25, attributes := #[] }, { accessFlags := 25, nameIndex := 284, descriptorIndex := 25, attributes := #[] }, { accessFlags := 25, nameIndex := 286, descriptorIndex := 25, attributes := #[] }, { accessFlags := 25, nameIndex := 288, descriptorIndex := 25, attributes := #[] }, { accessFlags := 25, nameIndex := 290, descriptorIndex := 25, attributes := #[] }, { accessFlags := 25, nameIndex := 292, descriptorIndex := 25, attributes := #[] }, { accessFlags := 26, nameIndex := 108, descriptorIndex := 109, attributes := #[] }, { accessFlags := 25, nameIndex := 294, descriptorIndex := 25, attributes := #[] }])
  fields := #[{ name := "U", type := (.object "jdk/internal/misc/Unsafe"), accessFlags := 24, slot := 0, constantValue := 0 }, { name := "BIG_ENDIAN", type := .boolean, accessFlags := 26, slot := 1, constantValue := 0 }, { name := "LOG2_ARRAY_BOOLEAN_INDEX_SCALE", type := .int, accessFlags := 25, slot := 2, constantValue := 0 }, { name := "LOG2_ARRAY_BYTE_INDEX_SCALE", type := .int, accessFlags := 25, slot := 3, constantValue := 0 }, { name := "LOG2_ARRAY_CHAR_INDEX_SCALE", type := .int, accessFlags := 25, slot := 4, constantValue := 0 }, { name := "LOG2_ARRAY_SHORT_INDEX_SCALE", type := .int, accessFlags := 25, slot := 5, constantValue := 0 }, { name := "LOG2_ARRAY_INT_INDEX_SCALE", type := .int, accessFlags := 25, slot := 6, constantValue := 0 }, { name := "LOG2_ARRAY_LONG_INDEX_SCALE", type := .int, accessFlags := 25, slot := 7, constantValue := 0 }, { name := "LOG2_ARRAY_FLOAT_INDEX_SCALE", type := .int, accessFlags := 25, slot := 8, constantValue := 0 }, { name := "LOG2_ARRAY_DOUBLE_INDEX_SCALE", type := .int, accessFlags := 25, slot := 9, constantValue := 0 }, { name := "LOG2_BYTE_BIT_SIZE", type := .int, accessFlags := 26, slot := 10, constantValue := 0 }, { name := "T_BOOLEAN", type := .int, accessFlags := 25, slot := 11, constantValue := 0 }, { name := "T_CHAR", type := .int, accessFlags := 25, slot := 12, constantValue := 0 }, { name := "T_FLOAT", type := .int, accessFlags := 25, slot := 13, constantValue := 0 }, { name := "T_DOUBLE", type := .int, accessFlags := 25, slot := 14, constantValue := 0 }, { name := "T_BYTE", type := .int, accessFlags := 25, slot := 15, constantValue := 0 }, { name := "T_SHORT", type := .int, accessFlags := 25, slot := 16, constantValue := 0 }, { name := "T_INT", type := .int, accessFlags := 25, slot := 17, constantValue := 0 }, { name := "T_LONG", type := .int, accessFlags := 25, slot := 18, constantValue := 0 }, { name := "JLA", type := (.object "jdk/internal/access/JavaLangAccess"), accessFlags := 26, slot := 19, constantValue := 0 }, { name := "SOFT_MAX_ARRAY_LENGTH", type := .int, accessFlags := 25, slot := 20, constantValue := 0 }]
  methods := #[k12m0]
  instanceTypes := #[]
  staticTypes := #[(.object "jdk/internal/misc/Unsafe"), .boolean, .int, .int, .int, .int, .int, .int, .int, .int, .int, .int, .int, .int, .int, .int, .int, .int, .int, (.object "jdk/internal/access/JavaLangAccess"), .int]
  resolved := Array.replicate 378 none
  statics := none }

def pool13 : Array CpInfo := pool [(1, u "java/lang/Cloneable"), (0, .class_ 1), (0, u "java/lang/Object"), (0, .class_ 3)] 3

/-- java/lang/Cloneable -/
def k13 : Class := { plain "java/lang/Cloneable" (some 0) with
  accessFlags := 1537
  interfaces := #[]
  cf := some (fileOf pool13 2 #[] #[] 1537 4 #[] #[])
  fields := #[]
  methods := #[]
  instanceTypes := #[]
  staticTypes := #[]
  resolved := Array.replicate 8 none
  statics := none }

/-- the primitive byte -/
def k14 : Class := { plain "byte" none with kind := .primitive 'B', accessFlags := 0x411 }
/-- [B -/
def k15 : Class := { plain "[B" (some 0) with kind := .array 14 .byte, interfaces := #[13, 2], accessFlags := 1041 }

/-- the primitive char -/
def k16 : Class := { plain "char" none with kind := .primitive 'C', accessFlags := 0x411 }
/-- [C -/
def k17 : Class := { plain "[C" (some 0) with kind := .array 16 .char, interfaces := #[13, 2], accessFlags := 1041 }

/-- the primitive int -/
def k18 : Class := { plain "int" none with kind := .primitive 'I', accessFlags := 0x411 }
/-- [I -/
def k19 : Class := { plain "[I" (some 0) with kind := .array 18 .int, interfaces := #[13, 2], accessFlags := 1041 }

def heap : Heap := #[{ cls := 7, slots := #[.long 0, .int 1, .null, .int 0, .null, .int 0, .int 0], vm := .statics 7 },
  { cls := 11, slots := #[.null, .null, .null], vm := .statics 11 }]
def classes : Array Class := #[k0, k1, k2, k3, k4, k5, k6, k7, k8, k9, k10, k11, k12, k13, k14, k15, k16, k17, k18, k19]
def interned : List (Array UInt16 × Addr) := []
def slotsUsed : Nat := 10
def theMethod : MethodId := ⟨1, 2⟩
def args0 : Array Value := #[.int 5, .int 7, .int 5, .int 7, .int 3]
def aboutOver (below : List Frame) : State where
  vm := { classes := classes, interned := interned.toArray }
  heap := heap
  slotsUsed := slotsUsed
  threads := #[{ frames := .invoking theMethod args0 :: below }]
def below0 : List Frame := [.native { method := ⟨0, 0⟩, args := #[] }]
def about1 : State := aboutOver below0
def p0 : Program := .bare "" "" ""
def e0 : Env := launch0.env 0 0 0
theorem w_frames : about1.frames = Frame.invoking theMethod args0 :: below0 := rfl
set_option maxRecDepth 65536 in
theorem w_args : argsFit about1.vm theMethod args0 = true := by decide +kernel
set_option maxRecDepth 65536 in
theorem w_heap : heapFits about1 = true := by decide +kernel
set_option maxRecDepth 65536 in
theorem w_runnable : about1.curStatus? = some .runnable := by decide +kernel
set_option maxRecDepth 65536 in
theorem w_alone : about1.alone = true := by decide +kernel
set_option maxRecDepth 65536 in
theorem w_named : about1.methodNamed? x = some theMethod := by decide +kernel
set_option maxRecDepth 65536 in
theorem w_hears : about1.hears theMethod below0 = true := by decide +kernel
set_option maxRecDepth 65536 in
theorem w_ripe : about1.ripe theMethod args0 below0 = true := by decide +kernel
theorem w_running : about1.status = .running := rfl
set_option maxRecDepth 65536 in
theorem w_room : about1.hasRoom e0.platform room_1 = true :=
  launch0.hasRoom_least _ room_1 (by decide +kernel) (by decide +kernel) (by decide +kernel) (by decide +kernel) (by decide +kernel) (by decide +kernel)
theorem allAtoms_all (ts : List Jvm.Cond) (a : Array Jvm.Value) (st : Jvm.State) : (allAtoms ts).before a st = ts.all (fun c => c.before a st) := by
  induction ts with
  | nil => rfl
  | cons c t ih =>
    show (Jvm.Cond.and c (allAtoms t)).before a st = _
    rw [Jvm.Cond.before_and, ih, List.all_cons]
def words1 : List Jvm.Cond := Jvm.Cond.code x code maxLocals ret :: tables_1
/-- a 'code' word, met by the world's own term for the bytes: nothing is compared byte by byte -/
theorem code_word {y : MethodName} {bytes : ByteArray} {mx : Nat} {rt : Option FieldType} {a : Array Value} {s : State} {m : MethodId} {meth : Method} {c : Code} (h1 : s.methodNamed? y = some m) (h2 : s.vm.method? m = some meth) (h3 : meth.code = some c) (h4 : c.code = bytes)
    (h5 : (c.maxLocals == mx && c.exceptionTable.isEmpty && decide (c.maxStack ≤ mostOperands) && decide (meth.sig.returnType = rt) && !meth.locks && decide (parseMethodDescriptor y.desc = some meth.sig)) = true) : (Jvm.Cond.code y bytes mx rt).before a s = true := by
  simp only [Bool.and_eq_true, beq_iff_eq, Bool.not_eq_true', decide_eq_true_eq] at h5
  obtain ⟨⟨⟨⟨⟨g1, g2⟩, g3⟩, g4⟩, g5⟩, g6⟩ := h5
  simp [Cond.before, Cond.holds, Cond.value, h1, h2, h3, h4, g1, g2, g3, g4, g5, g6]
def isCode : Jvm.Cond → Bool
  | .code _ _ _ _ => true
  | _ => false
theorem all_split {L : List Jvm.Cond} {P : Jvm.Cond → Bool} (h1 : L.all (fun c => isCode c || P c) = true) (h2 : ∀ c ∈ L.filter isCode, P c = true) : L.all P = true := by
  refine List.all_eq_true.mpr fun c hc => ?_
  have h := List.all_eq_true.mp h1 c hc
  rcases Bool.eq_false_or_eq_true (isCode c) with hi | hi
  · exact h2 c (List.mem_filter.mpr ⟨hc, hi⟩)
  · simpa [hi] using h
set_option maxRecDepth 65536 in
theorem w_c0 : (Jvm.Cond.code x code maxLocals ret).before args0 about1 = true := code_word (m := ⟨1, 2⟩) (meth := k1m2) (c := k1c2) (by decide +kernel) rfl rfl rfl (by decide +kernel)
set_option maxRecDepth 65536 in
theorem w_c1 : (Jvm.Cond.code ({ cls := "com/example/loomfilter/loomfilter/core/LayoutCheckNamePinLaw", name := "allowed", desc := "(I)C" } : Jvm.MethodName) method_2_code (2 : Nat) (Option.some Jvm.ClassFile.FieldType.char)).before args0 about1 = true := code_word (m := ⟨1, 1⟩) (meth := k1m1) (c := k1c1) (by decide +kernel) rfl rfl rfl (by decide +kernel)
set_option maxRecDepth 65536 in
theorem w_c2 : (Jvm.Cond.code ({ cls := "java/lang/String", name := "<init>", desc := "([C)V" } : Jvm.MethodName) jdk_42_method_3_code (2 : Nat) (Option.none : Option Jvm.ClassFile.FieldType)).before args0 about1 = true := code_word (m := ⟨7, 1⟩) (meth := k7m1) (c := k7c1) (by decide +kernel) rfl rfl rfl (by decide +kernel)
set_option maxRecDepth 65536 in
theorem w_c3 : (Jvm.Cond.code ({ cls := "java/lang/String", name := "<init>", desc := "([CIILjava/lang/Void;)V" } : Jvm.MethodName) jdk_42_method_149_code (6 : Nat) (Option.none : Option Jvm.ClassFile.FieldType)).before args0 about1 = true := code_word (m := ⟨7, 5⟩) (meth := k7m5) (c := k7c5) (by decide +kernel) rfl rfl rfl (by decide +kernel)
set_option maxRecDepth 65536 in
theorem w_c4 : (Jvm.Cond.code ({ cls := "java/lang/Object", name := "<init>", desc := "()V" } : Jvm.MethodName) object_method_1_code (1 : Nat) (Option.none : Option Jvm.ClassFile.FieldType)).before args0 about1 = true := code_word (m := ⟨0, 0⟩) (meth := k0m0) (c := k0c0) (by decide +kernel) rfl rfl rfl (by decide +kernel)
set_option maxRecDepth 65536 in
theorem w_c5 : (Jvm.Cond.code ({ cls := "java/lang/StringUTF16", name := "compress", desc := "([CII)[B" } : Jvm.MethodName) jdk_52_method_16_code (6 : Nat) (Option.some (Jvm.ClassFile.FieldType.array Jvm.ClassFile.FieldType.byte))).before args0 about1 = true := code_word (m := ⟨8, 2⟩) (meth := k8m2) (c := k8c2) (by decide +kernel) rfl rfl rfl (by decide +kernel)
set_option maxRecDepth 65536 in
theorem w_c6 : (Jvm.Cond.code ({ cls := "java/lang/StringUTF16", name := "compress", desc := "([CI[BII)I" } : Jvm.MethodName) jdk_52_method_21_code (7 : Nat) (Option.some Jvm.ClassFile.FieldType.int)).before args0 about1 = true := code_word (m := ⟨8, 3⟩) (meth := k8m3) (c := k8c3) (by decide +kernel) rfl rfl rfl (by decide +kernel)
set_option maxRecDepth 65536 in
theorem w_c7 : (Jvm.Cond.code ({ cls := "java/lang/StringUTF16", name := "coderFromArrayLen", desc := "([BI)B" } : Jvm.MethodName) jdk_52_method_15_code (2 : Nat) (Option.some Jvm.ClassFile.FieldType.byte)).before args0 about1 = true := code_word (m := ⟨8, 1⟩) (meth := k8m1) (c := k8c1) (by decide +kernel) rfl rfl rfl (by decide +kernel)
set_option maxRecDepth 65536 in
theorem w_c8 : (Jvm.Cond.code ({ cls := "com/example/loomfilter/loomfilter/core/Layout", name := "checkName", desc := "(Ljava/lang/String;)Ljava/lang/String;" } : Jvm.MethodName) prog_5_method_2_code (4 : Nat) (Option.some (Jvm.ClassFile.FieldType.object "java/lang/String"))).before args0 about1 = true := code_word (m := ⟨9, 1⟩) (meth := k9m1) (c := k9c1) (by decide +kernel) rfl rfl rfl (by decide +kernel)
set_option maxRecDepth 65536 in
theorem w_c9 : (Jvm.Cond.code ({ cls := "java/lang/String", name := "isEmpty", desc := "()Z" } : Jvm.MethodName) jdk_42_method_55_code (1 : Nat) (Option.some Jvm.ClassFile.FieldType.boolean)).before args0 about1 = true := code_word (m := ⟨7, 3⟩) (meth := k7m3) (c := k7c3) (by decide +kernel) rfl rfl rfl (by decide +kernel)
set_option maxRecDepth 65536 in
theorem w_c10 : (Jvm.Cond.code ({ cls := "java/lang/String", name := "length", desc := "()I" } : Jvm.MethodName) jdk_42_method_54_code (1 : Nat) (Option.some Jvm.ClassFile.FieldType.int)).before args0 about1 = true := code_word (m := ⟨7, 2⟩) (meth := k7m2) (c := k7c2) (by decide +kernel) rfl rfl rfl (by decide +kernel)
set_option maxRecDepth 65536 in
theorem w_c11 : (Jvm.Cond.code ({ cls := "java/lang/String", name := "coder", desc := "()B" } : Jvm.MethodName) jdk_42_method_152_code (1 : Nat) (Option.some Jvm.ClassFile.FieldType.byte)).before args0 about1 = true := code_word (m := ⟨7, 6⟩) (meth := k7m6) (c := k7c6) (by decide +kernel) rfl rfl rfl (by decide +kernel)
set_option maxRecDepth 65536 in
theorem w_c12 : (Jvm.Cond.code ({ cls := "java/lang/String", name := "charAt", desc := "(I)C" } : Jvm.MethodName) jdk_42_method_56_code (2 : Nat) (Option.some Jvm.ClassFile.FieldType.char)).before args0 about1 = true := code_word (m := ⟨7, 4⟩) (meth := k7m4) (c := k7c4) (by decide +kernel) rfl rfl rfl (by decide +kernel)
set_option maxRecDepth 65536 in
theorem w_c13 : (Jvm.Cond.code ({ cls := "java/lang/String", name := "isLatin1", desc := "()Z" } : Jvm.MethodName) jdk_42_method_154_code (1 : Nat) (Option.some Jvm.ClassFile.FieldType.boolean)).before args0 about1 = true := code_word (m := ⟨7, 7⟩) (meth := k7m7) (c := k7c7) (by decide +kernel) rfl rfl rfl (by decide +kernel)
set_option maxRecDepth 65536 in
theorem w_c14 : (Jvm.Cond.code ({ cls := "java/lang/StringLatin1", name := "charAt", desc := "([BI)C" } : Jvm.MethodName) jdk_43_method_2_code (2 : Nat) (Option.some Jvm.ClassFile.FieldType.char)).before args0 about1 = true := code_word (m := ⟨10, 1⟩) (meth := k10m1) (c := k10c1) (by decide +kernel) rfl rfl rfl (by decide +kernel)
set_option maxRecDepth 65536 in
theorem w_c15 : (Jvm.Cond.code ({ cls := "java/lang/String", name := "checkIndex", desc := "(II)V" } : Jvm.MethodName) jdk_42_method_155_code (2 : Nat) (Option.none : Option Jvm.ClassFile.FieldType)).before args0 about1 = true := code_word (m := ⟨7, 8⟩) (meth := k7m8) (c := k7c8) (by decide +kernel) rfl rfl rfl (by decide +kernel)
set_option maxRecDepth 65536 in
theorem w_c16 : (Jvm.Cond.code ({ cls := "jdk/internal/util/Preconditions", name := "checkIndex", desc := "(IILjava/util/function/BiFunction;)I" } : Jvm.MethodName) jdk_41_method_11_code (3 : Nat) (Option.some Jvm.ClassFile.FieldType.int)).before args0 about1 = true := code_word (m := ⟨11, 1⟩) (meth := k11m1) (c := k11c1) (by decide +kernel) rfl rfl rfl (by decide +kernel)
def codes1 : List Jvm.Cond := [Jvm.Cond.code x code maxLocals ret, Jvm.Cond.code ({ cls := "com/example/loomfilter/loomfilter/core/LayoutCheckNamePinLaw", name := "allowed", desc := "(I)C" } : Jvm.MethodName) method_2_code (2 : Nat) (Option.some Jvm.ClassFile.FieldType.char), Jvm.Cond.code ({ cls := "java/lang/String", name := "<init>", desc := "([C)V" } : Jvm.MethodName) jdk_42_method_3_code (2 : Nat) (Option.none : Option Jvm.ClassFile.FieldType), Jvm.Cond.code ({ cls := "java/lang/String", name := "<init>", desc := "([CIILjava/lang/Void;)V" } : Jvm.MethodName) jdk_42_method_149_code (6 : Nat) (Option.none : Option Jvm.ClassFile.FieldType), Jvm.Cond.code ({ cls := "java/lang/Object", name := "<init>", desc := "()V" } : Jvm.MethodName) object_method_1_code (1 : Nat) (Option.none : Option Jvm.ClassFile.FieldType), Jvm.Cond.code ({ cls := "java/lang/StringUTF16", name := "compress", desc := "([CII)[B" } : Jvm.MethodName) jdk_52_method_16_code (6 : Nat) (Option.some (Jvm.ClassFile.FieldType.array Jvm.ClassFile.FieldType.byte)), Jvm.Cond.code ({ cls := "java/lang/StringUTF16", name := "compress", desc := "([CI[BII)I" } : Jvm.MethodName) jdk_52_method_21_code (7 : Nat) (Option.some Jvm.ClassFile.FieldType.int), Jvm.Cond.code ({ cls := "java/lang/StringUTF16", name := "coderFromArrayLen", desc := "([BI)B" } : Jvm.MethodName) jdk_52_method_15_code (2 : Nat) (Option.some Jvm.ClassFile.FieldType.byte), Jvm.Cond.code ({ cls := "com/example/loomfilter/loomfilter/core/Layout", name := "checkName", desc := "(Ljava/lang/String;)Ljava/lang/String;" } : Jvm.MethodName) prog_5_method_2_code (4 : Nat) (Option.some (Jvm.ClassFile.FieldType.object "java/lang/String")), Jvm.Cond.code ({ cls := "java/lang/String", name := "isEmpty", desc := "()Z" } : Jvm.MethodName) jdk_42_method_55_code (1 : Nat) (Option.some Jvm.ClassFile.FieldType.boolean), Jvm.Cond.code ({ cls := "java/lang/String", name := "length", desc := "()I" } : Jvm.MethodName) jdk_42_method_54_code (1 : Nat) (Option.some Jvm.ClassFile.FieldType.int), Jvm.Cond.code ({ cls := "java/lang/String", name := "coder", desc := "()B" } : Jvm.MethodName) jdk_42_method_152_code (1 : Nat) (Option.some Jvm.ClassFile.FieldType.byte), Jvm.Cond.code ({ cls := "java/lang/String", name := "charAt", desc := "(I)C" } : Jvm.MethodName) jdk_42_method_56_code (2 : Nat) (Option.some Jvm.ClassFile.FieldType.char), Jvm.Cond.code ({ cls := "java/lang/String", name := "isLatin1", desc := "()Z" } : Jvm.MethodName) jdk_42_method_154_code (1 : Nat) (Option.some Jvm.ClassFile.FieldType.boolean), Jvm.Cond.code ({ cls := "java/lang/StringLatin1", name := "charAt", desc := "([BI)C" } : Jvm.MethodName) jdk_43_method_2_code (2 : Nat) (Option.some Jvm.ClassFile.FieldType.char), Jvm.Cond.code ({ cls := "java/lang/String", name := "checkIndex", desc := "(II)V" } : Jvm.MethodName) jdk_42_method_155_code (2 : Nat) (Option.none : Option Jvm.ClassFile.FieldType), Jvm.Cond.code ({ cls := "jdk/internal/util/Preconditions", name := "checkIndex", desc := "(IILjava/util/function/BiFunction;)I" } : Jvm.MethodName) jdk_41_method_11_code (3 : Nat) (Option.some Jvm.ClassFile.FieldType.int)]
set_option maxRecDepth 65536 in
theorem codes_eq : words1.filter isCode = codes1 := rfl
theorem w_codes : ∀ c ∈ words1.filter isCode, c.before args0 about1 = true := by
  rw [codes_eq]
  intro c hc
  simp only [codes1, List.mem_cons, List.not_mem_nil, or_false] at hc
  rcases hc with rfl | rfl | rfl | rfl | rfl | rfl | rfl | rfl | rfl | rfl | rfl | rfl | rfl | rfl | rfl | rfl | rfl
  · exact w_c0
  · exact w_c1
  · exact w_c2
  · exact w_c3
  · exact w_c4
  · exact w_c5
  · exact w_c6
  · exact w_c7
  · exact w_c8
  · exact w_c9
  · exact w_c10
  · exact w_c11
  · exact w_c12
  · exact w_c13
  · exact w_c14
  · exact w_c15
  · exact w_c16
set_option maxRecDepth 65536 in
theorem w_t1 : (words1.take 24).all (fun c => isCode c || c.before args0 about1) = true := by decide +kernel
set_option maxRecDepth 65536 in
theorem w_t2 : ((words1.drop 24).take 24).all (fun c => isCode c || c.before args0 about1) = true := by decide +kernel
set_option maxRecDepth 65536 in
theorem w_t3 : (((words1.drop 24).drop 24).take 24).all (fun c => isCode c || c.before args0 about1) = true := by decide +kernel
set_option maxRecDepth 65536 in
theorem w_t4 : (((words1.drop 24).drop 24).drop 24).all (fun c => isCode c || c.before args0 about1) = true := by decide +kernel
theorem w_tables : (allAtoms (Jvm.Cond.code x code maxLocals ret :: tables_1)).before args0 about1 = true := by
  rw [allAtoms_all]
  show words1.all (fun c => c.before args0 about1) = true
  refine all_split ?_ w_codes
  rw [← List.take_append_drop 24 words1, List.all_append, w_t1, ← List.take_append_drop 24 (words1.drop 24), List.all_append, w_t2, ← List.take_append_drop 24 ((words1.drop 24).drop 24), List.all_append, w_t3, w_t4]
  rfl
set_option maxRecDepth 65536 in
theorem w_rest : rest_1_c.before args0 about1 = true := by decide +kernel
set_option maxRecDepth 65536 in
theorem w_case : (Jvm.Cond.and given_1 narrow_1).before args0 about1 = true := by decide +kernel
theorem w_applies : (headSpec (Jvm.Cond.code x code maxLocals ret :: tables_1) room_1).applies x e0.platform about1 = true :=
  (Spec.applies_iff w_frames).mpr ⟨w_running, w_runnable, w_alone, w_named, w_hears, w_ripe, w_room, w_tables⟩
theorem atStart : AtStart classFile x code maxLocals ret World_1 tables_1 room_1 Calls_1 rest_1 Pre_1 launch0 p0 e0 about1 theMethod args0 below0 :=
  ⟨lists_1, trivial, launch0.admits_env _ _ _, launch0.least_env, fairChoices_fair.cas, fairChoices_fair.clock, w_frames, w_args, w_heap, w_applies, trivial, w_rest, w_case⟩
end start1
theorem witness_1 : WitnessClaimed_1 := ⟨start1.p0, start1.e0, start1.about1, start1.theMethod, start1.args0, start1.below0, start1.atStart⟩
end Jvm.Pilot.@@N@@
