import JvmDerived
import JvmDerived.Pilot.@@N@@Statement
import JvmDerived.Pilot.@@N@@Code
set_option linter.unusedVariables false
set_option linter.unusedSimpArgs false
@@BLOCK:NumsL.lean.txt@@
/- laws to paste: Road.backV, Road.lenW, Road.chN, Road.codOf (cut by pick.py; bodies as the Statement names them) -/
namespace Jvm.Pilot.@@N@@
namespace StrChars
open Jvm Sem ClassFile Op Lib Jvm.Stand Jvm.Free.XT Jvm.Free.ALB Jvm.Free.JM Jvm.Free
open Jvm.Lib.Cold (StaticIs)
/-- a char array whose places are chars -/
def Ch (a : Addr) (A : Cell) (U : State) : Prop := Arr .char a A U ∧ Typed .char A
theorem Ch.mv {a : Addr} {A : Cell} {U U' : State} (h : Ch a A U) (hal : U.vm.Alike U'.vm) (hh : U'.heap = U.heap) : Ch a A U' := ⟨h.1.mv hal hh, h.2⟩
theorem Ch.keep {a : Addr} {A : Cell} {U U' : State} (h : Ch a A U) (hal : U.vm.Alike U'.vm) (hk : U'.heap[a]? = some A) : Ch a A U' := ⟨h.1.keep hal hk, h.2⟩
/-- what place i of a char[]'s cell holds -/
def cv (A : Cell) (i : Nat) : Int32 := match A.slots[i]? with | some (.int x) => x | _ => 0
theorem Ch.get {a : Addr} {A : Cell} {U : State} (h : Ch a A U) {i : Nat} (hi : i < A.slots.size) : A.slots[i]? = some (.int (cv A i)) := by
  have e := Array.getElem?_eq_getElem hi
  have f := h.2 i _ e
  unfold cv; rw [e]
  generalize A.slots[i] = v at f
  cases v <;> simp [fits] at f ⊢
/-- the byte that i2b leaves of a char -/
def lo8 (x : Int32) : Int32 := x.toInt8.toInt32
theorem fits_lo8 (y : Int32) : fits .byte (.int (lo8 y)) = true := by
  have h1 := y.toInt8.le_toInt
  have h2 := y.toInt8.toInt_lt
  simp only [lo8, fits, Bool.and_eq_true, decide_eq_true_eq, Int32.le_iff_toInt_le, Int8.toInt_toInt32, show (-128 : Int32).toInt = -128 from by decide, show (127 : Int32).toInt = 127 from by decide]
  omega
/-- A' is A but that each place j of lo .. hi - 1 holds f j -/
def Laid (A A' : Cell) (lo hi : Nat) (f : Nat → Value) : Prop := A'.cls = A.cls ∧ A'.vm = A.vm ∧ A'.slots.size = A.slots.size ∧ ∀ i, A'.slots[i]? = if lo ≤ i ∧ i < hi then some (f i) else A.slots[i]?
theorem Laid.zero (A : Cell) (lo : Nat) (f : Nat → Value) : Laid A A lo (lo + 0) f := ⟨rfl, rfl, rfl, fun i => by rw [if_neg (by omega)]⟩
theorem Laid.step {A Ak : Cell} {lo k : Nat} {f : Nat → Value} {v : Value} (h : Laid A Ak lo k f) (hlo : lo ≤ k) (hk : k < Ak.slots.size) (hv : v = f k) : Laid A (Ak.setSlot k v) lo (k + 1) f := by
  refine ⟨h.1, h.2.1, by simpa [Cell.setSlot] using h.2.2.1, fun i => ?_⟩
  by_cases e : k = i
  · subst e; rw [Cell.slots_setSlot_self v hk, if_pos (by omega), hv]
  · rw [Cell.slots_setSlot_ne v e, h.2.2.2 i]
    by_cases q : lo ≤ i ∧ i < k
    · rw [if_pos q, if_pos (by omega)]
    · rw [if_neg q, if_neg (by omega)]
def U16 : String := "java/lang/StringUTF16"
namespace Cmp5
def yN : MethodName := ⟨"java/lang/StringUTF16", "compress", "([CI[BII)I"⟩
abbrev yB : ByteArray := jdk_52_method_21_code
theorem d0 : decode yB 0 = .ok (.iconst 0, 1) := by decide +kernel
theorem d1 : decode yB 1 = .ok (.istore 5, 2) := by decide +kernel
theorem d3 : decode yB 3 = .ok (.iload 5, 2) := by decide +kernel
theorem d5 : decode yB 5 = .ok (.iload 4, 2) := by decide +kernel
theorem d7 : decode yB 7 = .ok (.if_icmp (.ge) 37, 3) := by decide +kernel
theorem d10 : decode yB 10 = .ok (.aload_n 0, 1) := by decide +kernel
theorem d11 : decode yB 11 = .ok (.iload_n 1, 1) := by decide +kernel
theorem d12 : decode yB 12 = .ok (.caload, 1) := by decide +kernel
theorem d13 : decode yB 13 = .ok (.istore 6, 2) := by decide +kernel
theorem d15 : decode yB 15 = .ok (.iload 6, 2) := by decide +kernel
theorem d17 : decode yB 17 = .ok (.sipush 255, 3) := by decide +kernel
theorem d20 : decode yB 20 = .ok (.if_icmp (.le) 6, 3) := by decide +kernel
theorem d26 : decode yB 26 = .ok (.aload_n 2, 1) := by decide +kernel
theorem d27 : decode yB 27 = .ok (.iload_n 3, 1) := by decide +kernel
theorem d28 : decode yB 28 = .ok (.iload 6, 2) := by decide +kernel
theorem d30 : decode yB 30 = .ok (.i2b, 1) := by decide +kernel
theorem d31 : decode yB 31 = .ok (.bastore, 1) := by decide +kernel
theorem d32 : decode yB 32 = .ok (.iinc 1 1, 3) := by decide +kernel
theorem d35 : decode yB 35 = .ok (.iinc 3 1, 3) := by decide +kernel
theorem d38 : decode yB 38 = .ok (.iinc 5 1, 3) := by decide +kernel
theorem d41 : decode yB 41 = .ok (.goto (-38), 3) := by decide +kernel
theorem d44 : decode yB 44 = .ok (.iload 4, 2) := by decide +kernel
theorem d46 : decode yB 46 = .ok (.ireturn, 1) := by decide +kernel
def site : List Cond := []
def tab : Cond := tabOf yN yB 7 (some .int) site
def P (b : Addr) (A : Cell) (d : Addr) (B : Cell) (o q len : Nat) (args : Array Value) (s : State) : Prop := args = #[.ref b, .int (Int32.ofNat o), .ref d, .int (Int32.ofNat q), .int (Int32.ofNat len)] ∧ Ch b A s ∧ Arr .byte d B s ∧ b ≠ d ∧ o + len ≤ A.slots.size ∧ q + len ≤ B.slots.size ∧ ∀ i, i < len → ¬ 255 < cv A (o + i)
def E (b : Addr) (A : Cell) (d : Addr) (B : Cell) (o q len : Nat) (r : Option Value) (s u : State) : Prop := r = some (.int (Int32.ofNat len)) ∧ ∃ B', Put d B' s u ∧ Laid B B' q (q + len) (fun j => Value.int (lo8 (cv A (o + (j - q)))))
/-- no char of the range above 255: len; the places written hold each char's low byte -/
theorem law (l : Launch) (b : Addr) (A : Cell) (d : Addr) (B : Cell) (o q len : Nat) : Law l yN 5 5 0 0 yB 7 (some .int) site (P b A d B o q len) (E b A d B o q len) (copyLocs d q len) 0 0 := by
  refine Law.of_walk (plainFor_of_name (by decide +kernel)) (by decide +kernel) (by decide +kernel) (by decide) (fun _ _ h => by rw [h.1]; rfl) (fun _ U U' hal hh h => ⟨h.1, h.2.1.mv hal hh, h.2.2.1.mv hal hh, h.2.2.2⟩) (fun r U U' V V' h1 hal h2 h => ⟨h.1, h.2.elim fun B' q => ⟨B', q.1.mv h1 h2, q.2⟩⟩) ?_
  intro p e s m args below meth c s₁ X0 hexec hbytes hml hret hlk hnm hown hh0 W hP
  obtain ⟨rfl, hA, hB, hne, l1, l2, hp⟩ := hP
  have c1 : Steps p.tables e below (s₁.setTop (entryFrame m #[.ref b, .int (Int32.ofNat o), .ref d, .int (Int32.ofNat q), .int (Int32.ofNat len)] 7)) (s₁.setTop (mkF m 0 #[.val (.ref b), .val (.int (Int32.ofNat o)), .val (.ref d), .val (.int (Int32.ofNat q)), .val (.int (Int32.ofNat len)), .unset, .unset] [])) := entry rfl
  have hA0 := hA.1.mv X0.warmed.alike hh0
  have hB0 := hB.mv X0.warmed.alike hh0
  have a31 := hA.1.2.2.2
  have c2 : Steps p.tables e below (s₁.setTop (entryFrame m #[.ref b, .int (Int32.ofNat o), .ref d, .int (Int32.ofNat q), .int (Int32.ofNat len)] 7)) (s₁.setTop (mkF m 3 #[.val (.ref b), .val (.int (Int32.ofNat o)), .val (.ref d), .val (.int (Int32.ofNat q)), .val (.int (Int32.ofNat len)), .val (.int 0), .unset] [])) := c1.trans (by
    refine iconstV X0.here hexec rfl 0 (hb hbytes d0) (by decide) ?_
    refine XS.istore X0.here hexec rfl (hb hbytes d1) rfl rfl ?_
    exact Steps.refl _)
  have loop : ∀ (r i : Nat), i + r = len → ∀ (z : Slot), (z = .unset ∨ ∃ w, z = .val w ∧ w.category = 1) → ∀ (Tl : State) (Bk : Cell), Stand p l e { frames := 0, locals := 0, cells := 0, slots := 0 } s m #[.ref b, .int (Int32.ofNat o), .ref d, .int (Int32.ofNat q), .int (Int32.ofNat len)] below meth c Tl ([] ++ copyLocs d q i) 0 0 → Put d Bk s₁ Tl → Laid B Bk q (q + i) (fun j => Value.int (lo8 (cv A (o + (j - q))))) →
      Steps p.tables e below (s₁.setTop (entryFrame m #[.ref b, .int (Int32.ofNat o), .ref d, .int (Int32.ofNat q), .int (Int32.ofNat len)] 7)) (Tl.setTop (mkF m 3 #[.val (.ref b), .val (.int (Int32.ofNat (o + i))), .val (.ref d), .val (.int (Int32.ofNat (q + i))), .val (.int (Int32.ofNat len)), .val (.int (Int32.ofNat i)), z] [])) → ∃ (T' : State) (B' : Cell) (z' : Slot), Stand p l e { frames := 0, locals := 0, cells := 0, slots := 0 } s m #[.ref b, .int (Int32.ofNat o), .ref d, .int (Int32.ofNat q), .int (Int32.ofNat len)] below meth c T' ([] ++ copyLocs d q len) 0 0 ∧ Put d B' s₁ T' ∧ Laid B B' q (q + len) (fun j => Value.int (lo8 (cv A (o + (j - q))))) ∧
      Steps p.tables e below (s₁.setTop (entryFrame m #[.ref b, .int (Int32.ofNat o), .ref d, .int (Int32.ofNat q), .int (Int32.ofNat len)] 7)) (T'.setTop (mkF m 3 #[.val (.ref b), .val (.int (Int32.ofNat (o + len))), .val (.ref d), .val (.int (Int32.ofNat (q + len))), .val (.int (Int32.ofNat len)), .val (.int (Int32.ofNat len)), z'] [])) := by
    intro r
    induction r with
    | zero =>
      intro i hi z hz Tl Bk Xl pl fl cl
      have hil : i = len := by omega
      rw [hil] at Xl fl cl
      exact ⟨Tl, Bk, z, Xl, pl, fl, cl⟩
    | succ r ih =>
      intro i hi z hz Tl Bk Xl pl fl cl
      have all := X0.warmed.alike.symm.trans Xl.warmed.alike
      have hAl := hA0.keep all (pl.other hne hA0.1)
      have hBk := hB0.like all pl.1 fl.1 fl.2.1 fl.2.2.1
      have hlt : q + i < Bk.slots.size := by rw [fl.2.2.1]; omega
      have c3 : Steps p.tables e below (s₁.setTop (entryFrame m #[.ref b, .int (Int32.ofNat o), .ref d, .int (Int32.ofNat q), .int (Int32.ofNat len)] 7)) (Tl.setTop (mkF m 12 #[.val (.ref b), .val (.int (Int32.ofNat (o + i))), .val (.ref d), .val (.int (Int32.ofNat (q + i))), .val (.int (Int32.ofNat len)), .val (.int (Int32.ofNat i)), z] [.int (Int32.ofNat (o + i)), .ref b])) := cl.trans (by
        refine XS.iload Xl.here hexec rfl (hb hbytes d3) rfl ?_
        refine XS.iload Xl.here hexec rfl (hb hbytes d5) rfl ?_
        refine XS.icmpNo Xl.here hexec rfl (hb hbytes d7) rfl (ii_ge_f (lt32 (by omega) (by omega))) ?_
        refine XS.aloadN Xl.here hexec rfl (hb hbytes d10) rfl rfl ?_
        refine XS.iloadN Xl.here hexec rfl (hb hbytes d11) rfl ?_
        exact Steps.refl _)
      have c4 : Steps p.tables e below (s₁.setTop (entryFrame m #[.ref b, .int (Int32.ofNat o), .ref d, .int (Int32.ofNat q), .int (Int32.ofNat len)] 7)) (Tl.setTop (mkF m 13 #[.val (.ref b), .val (.int (Int32.ofNat (o + i))), .val (.ref d), .val (.int (Int32.ofNat (q + i))), .val (.int (Int32.ofNat len)), .val (.int (Int32.ofNat i)), z] [.int (cv A (o + i))])) := c3.trans (by
        refine Xl.aget hexec hAl rfl (hA.get (i := o + i) (by omega)) rfl rfl (hb hbytes d12) ?_
        exact Steps.refl _)
      have c5 : Steps p.tables e below (s₁.setTop (entryFrame m #[.ref b, .int (Int32.ofNat o), .ref d, .int (Int32.ofNat q), .int (Int32.ofNat len)] 7)) (Tl.setTop (mkF m 15 #[.val (.ref b), .val (.int (Int32.ofNat (o + i))), .val (.ref d), .val (.int (Int32.ofNat (q + i))), .val (.int (Int32.ofNat len)), .val (.int (Int32.ofNat i)), .val (.int (cv A (o + i)))] [])) := c4.trans (by
        refine XS.istoreS Xl.here hexec rfl (hb hbytes d13) rfl rfl hz ?_
        exact Steps.refl _)
      have c6 : Steps p.tables e below (s₁.setTop (entryFrame m #[.ref b, .int (Int32.ofNat o), .ref d, .int (Int32.ofNat q), .int (Int32.ofNat len)] 7)) (Tl.setTop (mkF m 31 #[.val (.ref b), .val (.int (Int32.ofNat (o + i))), .val (.ref d), .val (.int (Int32.ofNat (q + i))), .val (.int (Int32.ofNat len)), .val (.int (Int32.ofNat i)), .val (.int (cv A (o + i)))] [.int (lo8 (cv A (o + i))), .int (Int32.ofNat (q + i)), .ref d])) := c5.trans (by
        refine XS.iload Xl.here hexec rfl (hb hbytes d15) rfl ?_
        refine sipushV Xl.here hexec rfl 255 (hb hbytes d17) (by decide) ?_
        refine XS.icmpYes Xl.here hexec rfl (pc0 := 20) rfl (hb hbytes d20) rfl (ii_le_t (hp i (by omega))) (by decide) rfl ?_
        refine XS.aloadN Xl.here hexec rfl (hb hbytes d26) rfl rfl ?_
        refine XS.iloadN Xl.here hexec rfl (hb hbytes d27) rfl ?_
        refine XS.iload Xl.here hexec rfl (hb hbytes d28) rfl ?_
        refine i2b Xl.here hexec rfl (hb hbytes d30) rfl ?_
        exact Steps.refl _)
      obtain ⟨T7, X7, p7, st7⟩ := Xl.aput hexec hBk rfl hlt rfl (fits_lo8 (cv A (o + i))) (g := (mkF m 31 #[.val (.ref b), .val (.int (Int32.ofNat (o + i))), .val (.ref d), .val (.int (Int32.ofNat (q + i))), .val (.int (Int32.ofNat len)), .val (.int (Int32.ofNat i)), .val (.int (cv A (o + i)))] [.int (lo8 (cv A (o + i))), .int (Int32.ofNat (q + i)), .ref d])) rfl (rest := []) rfl (hb hbytes d31)
      have c8 : Steps p.tables e below (s₁.setTop (entryFrame m #[.ref b, .int (Int32.ofNat o), .ref d, .int (Int32.ofNat q), .int (Int32.ofNat len)] 7)) (T7.setTop (mkF m 32 #[.val (.ref b), .val (.int (Int32.ofNat (o + i))), .val (.ref d), .val (.int (Int32.ofNat (q + i))), .val (.int (Int32.ofNat len)), .val (.int (Int32.ofNat i)), .val (.int (cv A (o + i)))] [])) := c6.trans (st7 _ (Steps.refl _))
      have c9 : Steps p.tables e below (s₁.setTop (entryFrame m #[.ref b, .int (Int32.ofNat o), .ref d, .int (Int32.ofNat q), .int (Int32.ofNat len)] 7)) (T7.setTop (mkF m 3 #[.val (.ref b), .val (.int (Int32.ofNat (o + i) + 1)), .val (.ref d), .val (.int (Int32.ofNat (q + i) + 1)), .val (.int (Int32.ofNat len)), .val (.int (Int32.ofNat i + 1)), .val (.int (cv A (o + i)))] [])) := c8.trans (by
        refine iincV X7.here hexec rfl 1 (hb hbytes d32) (by decide) rfl rfl ?_
        refine iincV X7.here hexec rfl 1 (hb hbytes d35) (by decide) rfl rfl ?_
        refine iincV X7.here hexec rfl 1 (hb hbytes d38) (by decide) rfl rfl ?_
        refine XS.goto X7.here hexec rfl (pc0 := 41) rfl (hb hbytes d41) (by decide) rfl ?_
        exact Steps.refl _)
      have c10 : Steps p.tables e below (s₁.setTop (entryFrame m #[.ref b, .int (Int32.ofNat o), .ref d, .int (Int32.ofNat q), .int (Int32.ofNat len)] 7)) (T7.setTop (mkF m 3 #[.val (.ref b), .val (.int (Int32.ofNat (o + (i + 1)))), .val (.ref d), .val (.int (Int32.ofNat (q + (i + 1)))), .val (.int (Int32.ofNat len)), .val (.int (Int32.ofNat (i + 1))), .val (.int (cv A (o + i)))] [])) := by
        have := c9
        rw [succ32, succ32, succ32] at this
        exact this
      exact ih (i + 1) (by omega) _ (Or.inr ⟨_, rfl, rfl⟩) T7 _ (by rw [copyLocs_step, ← List.append_assoc]; exact X7) (pl.trans p7) (fl.step (by omega) hlt (by simp)) c10
  obtain ⟨T9, B9, z9, X9, p9, f9, g9⟩ := loop len 0 (by omega) .unset (Or.inl rfl) s₁ B (by simpa [copyLocs] using X0) ⟨hB0.1, fun _ _ => rfl, rfl⟩ (Laid.zero _ _ _) c2
  have c11 : Steps p.tables e below (s₁.setTop (entryFrame m #[.ref b, .int (Int32.ofNat o), .ref d, .int (Int32.ofNat q), .int (Int32.ofNat len)] 7)) (T9.setTop (mkF m 46 #[.val (.ref b), .val (.int (Int32.ofNat (o + len))), .val (.ref d), .val (.int (Int32.ofNat (q + len))), .val (.int (Int32.ofNat len)), .val (.int (Int32.ofNat len)), z9] [.int (Int32.ofNat len)])) := g9.trans (by
    refine XS.iload X9.here hexec rfl (hb hbytes d3) rfl ?_
    refine XS.iload X9.here hexec rfl (hb hbytes d5) rfl ?_
    refine XS.icmpYes X9.here hexec rfl (pc0 := 7) rfl (hb hbytes d7) rfl (ii_ge_t (nlt32 (by omega) (Nat.le_refl _))) (by decide) rfl ?_
    refine XS.iload X9.here hexec rfl (hb hbytes d44) rfl ?_
    exact Steps.refl _)
  exact ⟨T9, some (.int (Int32.ofNat len)), _, _, _, X9, by simp, rfl, rfl, (fun h => by cases h), ⟨rfl, B9, p9.from hh0, f9⟩, fun fs hl => c11.trans (X9.ireturnOut hexec hret rfl (Or.inl rfl) (hb hbytes d46) hl)⟩
end Cmp5
namespace Cmp3
def yN : MethodName := ⟨"java/lang/StringUTF16", "compress", "([CII)[B"⟩
abbrev yB : ByteArray := jdk_52_method_16_code
theorem d0 : decode yB 0 = .ok (.iload_n 2, 1) := by decide +kernel
theorem d1 : decode yB 1 = .ok (.newarray .byte, 2) := by decide +kernel
theorem d3 : decode yB 3 = .ok (.astore_n 3, 1) := by decide +kernel
theorem d4 : decode yB 4 = .ok (.aload_n 0, 1) := by decide +kernel
theorem d5 : decode yB 5 = .ok (.iload_n 1, 1) := by decide +kernel
theorem d6 : decode yB 6 = .ok (.aload_n 3, 1) := by decide +kernel
theorem d7 : decode yB 7 = .ok (.iconst 0, 1) := by decide +kernel
theorem d8 : decode yB 8 = .ok (.iload_n 2, 1) := by decide +kernel
theorem d9 : decode yB 9 = .ok (.invokestatic 115, 3) := by decide +kernel
theorem d12 : decode yB 12 = .ok (.istore 4, 2) := by decide +kernel
theorem d14 : decode yB 14 = .ok (.iload 4, 2) := by decide +kernel
theorem d16 : decode yB 16 = .ok (.iload_n 2, 1) := by decide +kernel
theorem d17 : decode yB 17 = .ok (.if_icmp (.eq) 40, 3) := by decide +kernel
theorem d57 : decode yB 57 = .ok (.aload_n 3, 1) := by decide +kernel
theorem d58 : decode yB 58 = .ok (.areturn, 1) := by decide +kernel
def site : List Cond := [.arrayClass .byte, Cmp5.tab] ++ staticW U16 115 Cmp5.yN
def tab : Cond := tabOf yN yB 6 (some (.array .byte)) site
def P (b : Addr) (A : Cell) (o len : Nat) (args : Array Value) (s : State) : Prop := args = #[.ref b, .int (Int32.ofNat o), .int (Int32.ofNat len)] ∧ Ch b A s ∧ o + len ≤ A.slots.size ∧ len ≤ 536870912 ∧ ∀ i, i < len → ¬ 255 < cv A (o + i)
def E (b : Addr) (A : Cell) (o len : Nat) (r : Option Value) (s u : State) : Prop := NewArr .byte "[B" len (fun j => .int (lo8 (cv A (o + j)))) r s u ∧ u.heap.size = s.heap.size + 1
/-- no char of the range above 255: a new byte[] of their low bytes -/
theorem law (l : Launch) (b : Addr) (A : Cell) (o len : Nat) : Law l yN 3 3 1 18 yB 6 (some (.array .byte)) site (P b A o len) (E b A o len) [] 1 len := by
  refine Law.of_walk (plainFor_of_name (by decide +kernel)) (by decide +kernel) (by decide +kernel) (by decide) (fun _ _ h => by rw [h.1]; rfl) (fun _ U U' hal hh h => ⟨h.1, h.2.1.mv hal hh, h.2.2⟩) (fun r U U' V V' h1 hal h2 h => ⟨NewArr.mv r U U' V V' h1 hal h2 h.1, by rw [h1, h2]; exact h.2⟩) ?_
  intro p e s m args below meth c s₁ X0 hexec hbytes hml hret hlk hnm hown hh0 W hP
  obtain ⟨rfl, hA, l1, l2, hp⟩ := hP
  have a31 := hA.1.2.2.2
  have c1 : Steps p.tables e below (s₁.setTop (entryFrame m #[.ref b, .int (Int32.ofNat o), .int (Int32.ofNat len)] 6)) (s₁.setTop (mkF m 0 #[.val (.ref b), .val (.int (Int32.ofNat o)), .val (.int (Int32.ofNat len)), .unset, .unset, .unset] [])) := entry rfl
  have c2 : Steps p.tables e below (s₁.setTop (entryFrame m #[.ref b, .int (Int32.ofNat o), .int (Int32.ofNat len)] 6)) (s₁.setTop (mkF m 1 #[.val (.ref b), .val (.int (Int32.ofNat o)), .val (.int (Int32.ofNat len)), .unset, .unset, .unset] [.int (Int32.ofNat len)])) := c1.trans (by
    refine XS.iloadN X0.here hexec rfl (hb hbytes d0) rfl ?_
    exact Steps.refl _)
  obtain ⟨T3, B3, X3, ba3, bs3, bv3, bh3, bf3, st3⟩ := X0.anew hexec (atype := .byte) (wk W (.arrayClass .byte)) rfl (by show len * 1 ≤ _; omega) (by omega) (g := (mkF m 1 #[.val (.ref b), .val (.int (Int32.ofNat o)), .val (.int (Int32.ofNat len)), .unset, .unset, .unset] [.int (Int32.ofNat len)])) rfl (hb hbytes d1) (rest := []) rfl (Nat.le_refl _) (by show 0 + len ≤ len; omega)
  rw [hh0] at ba3 st3
  have kp3 : XT.Kept s T3 := (XT.Kept.of_eq hh0).push bh3
  have hA3 := hA.keep X3.warmed.alike (kp3 _ _ hA.1.1)
  have hne : b ≠ s.heap.size := hA.1.ne
  have c4 : Steps p.tables e below (s₁.setTop (entryFrame m #[.ref b, .int (Int32.ofNat o), .int (Int32.ofNat len)] 6)) (T3.setTop (mkF m 3 #[.val (.ref b), .val (.int (Int32.ofNat o)), .val (.int (Int32.ofNat len)), .unset, .unset, .unset] [.ref s.heap.size])) := c2.trans (st3 _ (Steps.refl _))
  have c5 : Steps p.tables e below (s₁.setTop (entryFrame m #[.ref b, .int (Int32.ofNat o), .int (Int32.ofNat len)] 6)) (T3.setTop (mkF m 9 #[.val (.ref b), .val (.int (Int32.ofNat o)), .val (.int (Int32.ofNat len)), .val (.ref s.heap.size), .unset, .unset] [.int (Int32.ofNat len), .int 0, .ref s.heap.size, .int (Int32.ofNat o), .ref b])) := c4.trans (by
    refine XS.astoreN X3.here hexec rfl (hb hbytes d3) rfl rfl rfl ?_
    refine XS.aloadN X3.here hexec rfl (hb hbytes d4) rfl rfl ?_
    refine XS.iloadN X3.here hexec rfl (hb hbytes d5) rfl ?_
    refine XS.aloadN X3.here hexec rfl (hb hbytes d6) rfl rfl ?_
    refine iconstV X3.here hexec rfl 0 (hb hbytes d7) (by decide) ?_
    refine XS.iloadN X3.here hexec rfl (hb hbytes d8) rfl ?_
    exact Steps.refl _)
  obtain ⟨v6, T6, X6, E6, g6⟩ := X3.callS hexec (Cmp5.law l b A s.heap.size B3 o 0 len) hown (wks W (staticW U16 115 Cmp5.yN)) (wk W Cmp5.tab) (W := 0) (Nat.le_of_ble_eq_true rfl) (Nat.le_of_ble_eq_true rfl) (Nat.le_refl _) (by show 0 + len + 0 ≤ len; omega) (g := (mkF m 9 #[.val (.ref b), .val (.int (Int32.ofNat o)), .val (.int (Int32.ofNat len)), .val (.ref s.heap.size), .unset, .unset] [.int (Int32.ofNat len), .int (Int32.ofNat 0), .ref s.heap.size, .int (Int32.ofNat o), .ref b])) rfl (by rw [hml]; rfl) c5 (argsL := [.ref b, .int (Int32.ofNat o), .ref s.heap.size, .int (Int32.ofNat 0), .int (Int32.ofNat len)]) (rest := []) rfl rfl (by show 2 * 0 + 0 ≤ _; decide) (hb hbytes d9) (⟨rfl, hA3, ba3, hne, l1, by rw [bs3]; simp, hp⟩)
  obtain ⟨rfl, B6, p6, f6⟩ := E6
  have c7 : Steps p.tables e below (s₁.setTop (entryFrame m #[.ref b, .int (Int32.ofNat o), .int (Int32.ofNat len)] 6)) (T6.setTop (mkF m 12 #[.val (.ref b), .val (.int (Int32.ofNat o)), .val (.int (Int32.ofNat len)), .val (.ref s.heap.size), .unset, .unset] [.int (Int32.ofNat len)])) := g6
  have c8 : Steps p.tables e below (s₁.setTop (entryFrame m #[.ref b, .int (Int32.ofNat o), .int (Int32.ofNat len)] 6)) (T6.setTop (mkF m 58 #[.val (.ref b), .val (.int (Int32.ofNat o)), .val (.int (Int32.ofNat len)), .val (.ref s.heap.size), .val (.int (Int32.ofNat len)), .unset] [.ref s.heap.size])) := c7.trans (by
    refine XS.istore X6.here hexec rfl (hb hbytes d12) rfl rfl ?_
    refine XS.iload X6.here hexec rfl (hb hbytes d14) rfl ?_
    refine XS.iloadN X6.here hexec rfl (hb hbytes d16) rfl ?_
    refine XS.icmpYes X6.here hexec rfl (pc0 := 17) rfl (hb hbytes d17) rfl (ii_eq_t rfl) (by decide) rfl ?_
    refine XS.aloadN X6.here hexec rfl (hb hbytes d57) rfl rfl ?_
    exact Steps.refl _)
  have X8 := X6.wide (L' := []) (cells' := 1) (slots' := len) (fun x hx hlt => by
    simp only [List.nil_append, copyLocs, List.mem_map, List.mem_range] at hx
    obtain ⟨i, -, rfl⟩ := hx
    exact absurd hlt (Nat.lt_irrefl _)) (Nat.le_refl _) (by omega)
  exact ⟨T6, some (.ref s.heap.size), _, _, _, X8, rfl, rfl, rfl, (fun h => by cases h), ⟨⟨rfl, B6, ba3.like (X3.warmed.alike.symm.trans X6.warmed.alike) p6.1 f6.1 f6.2.1 f6.2.2.1, f6.2.1.trans bv3, by rw [X6.warmed.alike.findClass, f6.1]; exact bf3, by rw [f6.2.2.1, bs3]; simp, fun j hj => by rw [f6.2.2.2 j, if_pos (by omega)]; rfl, kp3.put p6 (Nat.le_refl _)⟩, by rw [p6.2.2, bh3, hh0]; simp⟩, fun fs hl => c8.trans (X8.areturnOut hexec rfl hret rfl (hb hbytes d58) hl)⟩
end Cmp3
namespace CodL
def yN : MethodName := ⟨"java/lang/StringUTF16", "coderFromArrayLen", "([BI)B"⟩
abbrev yB : ByteArray := jdk_52_method_15_code
theorem d0 : decode yB 0 = .ok (.iload_n 1, 1) := by decide +kernel
theorem d1 : decode yB 1 = .ok (.aload_n 0, 1) := by decide +kernel
theorem d2 : decode yB 2 = .ok (.arraylength, 1) := by decide +kernel
theorem d3 : decode yB 3 = .ok (.isub, 1) := by decide +kernel
theorem d4 : decode yB 4 = .ok (.bipush 31, 2) := by decide +kernel
theorem d6 : decode yB 6 = .ok (.iushr, 1) := by decide +kernel
theorem d7 : decode yB 7 = .ok (.i2b, 1) := by decide +kernel
theorem d8 : decode yB 8 = .ok (.ireturn, 1) := by decide +kernel
def site : List Cond := []
def tab : Cond := tabOf yN yB 2 (some .byte) site
def P (d : Addr) (B : Cell) (args : Array Value) (s : State) : Prop := args = #[.ref d, .int (Int32.ofNat B.slots.size)] ∧ Arr .byte d B s
def E (r : Option Value) (s u : State) : Prop := XT.PureE (some (.int 0)) r s u
/-- an array as long as the number of chars: LATIN1 -/
theorem law (l : Launch) (d : Addr) (B : Cell) : Law l yN 2 2 0 0 yB 2 (some .byte) site (P d B) E [] 0 0 := by
  refine Law.of_walk (plainFor_of_name (by decide +kernel)) (by decide +kernel) (by decide +kernel) (by decide) (fun _ _ h => by rw [h.1]; rfl) (fun _ U U' hal hh h => ⟨h.1, h.2.mv hal hh⟩) (fun r U U' V V' h1 hal h2 h => XT.PureE.mv r U U' V V' h1 hal h2 h) ?_
  intro p e s m args below meth c s₁ X0 hexec hbytes hml hret hlk hnm hown hh0 W hP
  obtain ⟨rfl, hB⟩ := hP
  have hB0 := hB.mv X0.warmed.alike hh0
  have c1 : Steps p.tables e below (s₁.setTop (entryFrame m #[.ref d, .int (Int32.ofNat B.slots.size)] 2)) (s₁.setTop (mkF m 0 #[.val (.ref d), .val (.int (Int32.ofNat B.slots.size))] [])) := entry rfl
  have c2 : Steps p.tables e below (s₁.setTop (entryFrame m #[.ref d, .int (Int32.ofNat B.slots.size)] 2)) (s₁.setTop (mkF m 2 #[.val (.ref d), .val (.int (Int32.ofNat B.slots.size))] [.ref d, .int (Int32.ofNat B.slots.size)])) := c1.trans (by
    refine XS.iloadN X0.here hexec rfl (hb hbytes d0) rfl ?_
    refine XS.aloadN X0.here hexec rfl (hb hbytes d1) rfl rfl ?_
    exact Steps.refl _)
  have c3 : Steps p.tables e below (s₁.setTop (entryFrame m #[.ref d, .int (Int32.ofNat B.slots.size)] 2)) (s₁.setTop (mkF m 8 #[.val (.ref d), .val (.int (Int32.ofNat B.slots.size))] [.int (lo8 (ushr (Int32.ofNat B.slots.size - Int32.ofNat B.slots.size) 31))])) := c2.trans (by
    refine X0.alen hexec hB0 rfl rfl (hb hbytes d2) ?_
    refine XS.isub X0.here hexec rfl (hb hbytes d3) rfl ?_
    refine bipushV X0.here hexec rfl 31 (hb hbytes d4) (by decide) ?_
    refine iushr X0.here hexec rfl (hb hbytes d6) rfl ?_
    refine i2b X0.here hexec rfl (hb hbytes d7) rfl ?_
    exact Steps.refl _)
  have e0 : lo8 (ushr (Int32.ofNat B.slots.size - Int32.ofNat B.slots.size) 31) = 0 := by rw [Int32.sub_self]; decide
  rw [e0] at c3
  exact ⟨s₁, some (.int 0), _, _, _, X0, rfl, rfl, rfl, (fun h => by cases h), ⟨rfl, hh0⟩, fun fs hl => c3.trans (X0.ireturnOut hexec hret rfl (Or.inr (Or.inr (Or.inl rfl))) (hb hbytes d8) hl)⟩
end CodL
/-- the String at a is Latin-1 over a new byte[] (the heap's one new cell): the low bytes of the len chars of A from o on; every cell but a is kept -/
def Got (a : Addr) (D : Cell) (fV fC : Field) (A : Cell) (o len : Nat) (r : Option Value) (s u : State) : Prop := r = none ∧ ∃ D' V : Cell, Blank "java/lang/String" a D' u ∧ Same D D' [fV.slot, fC.slot] ∧ D'.slots[fV.slot]? = some (.ref s.heap.size) ∧ D'.slots[fC.slot]? = some (.int 0) ∧ Arr .byte s.heap.size V u ∧ V.vm = .none ∧ u.vm.findClass "[B" = some V.cls ∧ V.slots.size = len ∧ (∀ j, j < len → V.slots[j]? = some (.int (lo8 (cv A (o + j))))) ∧ (∀ (y : Addr) (c : Cell), y ≠ a → s.heap[y]? = some c → u.heap[y]? = some c) ∧ u.heap.size = s.heap.size + 1
theorem Got.mv {a : Addr} {D A : Cell} {fV fC : Field} {o len : Nat} : ∀ r (U U' V V' : State), U'.heap = U.heap → V.vm.Alike V'.vm → V'.heap = V.heap → Got a D fV fC A o len r U V → Got a D fV fC A o len r U' V' :=
  fun r U U' V V' h1 hal h2 ⟨e0, D', X, a1, a2, a3, a4, a5, a6, a7, a8, a9, a10, a11⟩ => ⟨e0, D', X, a1.mv hal h2, a2, by rw [h1]; exact a3, a4, by rw [h1]; exact a5.mv hal h2, a6, by rw [hal.findClass]; exact a7, a8, a9, by rw [h1, h2]; exact a10, by rw [h1, h2]; exact a11⟩
namespace New4
def yN : MethodName := ⟨"java/lang/String", "<init>", "([CIILjava/lang/Void;)V"⟩
abbrev yB : ByteArray := jdk_42_method_149_code
theorem d0 : decode yB 0 = .ok (.aload_n 0, 1) := by decide +kernel
theorem d1 : decode yB 1 = .ok (.invokespecial 1, 3) := by decide +kernel
theorem d4 : decode yB 4 = .ok (.iload_n 3, 1) := by decide +kernel
theorem d5 : decode yB 5 = .ok (.ifCond (.ne) 22, 3) := by decide +kernel
theorem d27 : decode yB 27 = .ok (.getstatic 38, 3) := by decide +kernel
theorem d30 : decode yB 30 = .ok (.ifCond (.eq) 28, 3) := by decide +kernel
theorem d33 : decode yB 33 = .ok (.aload_n 1, 1) := by decide +kernel
theorem d34 : decode yB 34 = .ok (.iload_n 2, 1) := by decide +kernel
theorem d35 : decode yB 35 = .ok (.iload_n 3, 1) := by decide +kernel
theorem d36 : decode yB 36 = .ok (.invokestatic 177, 3) := by decide +kernel
theorem d39 : decode yB 39 = .ok (.astore 5, 2) := by decide +kernel
theorem d41 : decode yB 41 = .ok (.aload_n 0, 1) := by decide +kernel
theorem d42 : decode yB 42 = .ok (.aload 5, 2) := by decide +kernel
theorem d44 : decode yB 44 = .ok (.iload_n 3, 1) := by decide +kernel
theorem d45 : decode yB 45 = .ok (.invokestatic 47, 3) := by decide +kernel
theorem d48 : decode yB 48 = .ok (.putfield 15, 3) := by decide +kernel
theorem d51 : decode yB 51 = .ok (.aload_n 0, 1) := by decide +kernel
theorem d52 : decode yB 52 = .ok (.aload 5, 2) := by decide +kernel
theorem d54 : decode yB 54 = .ok (.putfield 9, 3) := by decide +kernel
theorem d57 : decode yB 57 = .ok (.return_, 1) := by decide +kernel
def site : List Cond := [.fieldLink "java/lang/String" 38 "java/lang/String" "COMPACT_STRINGS" "Z", Cmp3.tab, CodL.tab, .laysFinal "java/lang/String" "java/lang/String" "value" "[B", .fieldLink "java/lang/String" 9 "java/lang/String" "value" "[B", .laysFinal "java/lang/String" "java/lang/String" "coder" "B", .fieldLink "java/lang/String" 15 "java/lang/String" "coder" "B"] ++ objW "java/lang/String" 1 ++ staticW "java/lang/String" 177 Cmp3.yN ++ staticW "java/lang/String" 47 CodL.yN
def tab : Cond := tabOf yN yB 6 none site
def P (a : Addr) (D : Cell) (fV fC : Field) (b : Addr) (A : Cell) (z : Int32) (o len : Nat) (args : Array Value) (s : State) : Prop := args = #[.ref a, .ref b, .int (Int32.ofNat o), .int (Int32.ofNat len), .null] ∧ Blank "java/lang/String" a D s ∧ Found "java/lang/String" "value" "[B" fV s ∧ Found "java/lang/String" "coder" "B" fC s ∧ Ch b A s ∧ StaticIs s "java/lang/String" "COMPACT_STRINGS" "Z" (.int z) ∧ ¬ z = 0 ∧ 0 < len ∧ o + len ≤ A.slots.size ∧ len ≤ 536870912 ∧ ∀ i, i < len → ¬ 255 < cv A (o + i)
def E (a : Addr) (D : Cell) (fV fC : Field) (A : Cell) (o len : Nat) (r : Option Value) (s u : State) : Prop := Got a D fV fC A o len r s u
/-- len > 0, no char of the range above 255: a Latin-1 String of their low bytes -/
theorem law (l : Launch) (a : Addr) (D : Cell) (fV fC : Field) (b : Addr) (A : Cell) (z : Int32) (o len : Nat) : Law l yN 5 4 2 35 yB 6 none site (P a D fV fC b A z o len) (E a D fV fC A o len) [⟨a, fC.slot⟩, ⟨a, fV.slot⟩] 1 len := by
  refine Law.of_walk (plainFor_of_name (by decide +kernel)) (by decide +kernel) (by decide +kernel) (by decide) (fun _ _ h => by rw [h.1]; rfl) (fun _ U U' hal hh h => ⟨h.1, h.2.1.mv hal hh, h.2.2.1.al hal, h.2.2.2.1.al hal, h.2.2.2.2.1.mv hal hh, h.2.2.2.2.2.1.there hal hh, h.2.2.2.2.2.2⟩) (fun r U U' V V' h1 hal h2 h => Got.mv r U U' V V' h1 hal h2 h) ?_
  intro p e s m args below meth c s₁ X0 hexec hbytes hml hret hlk hnm hown hh0 W hP
  obtain ⟨rfl, hB, f1, f2, hA, s1, hz, l0, l1, l2, hp⟩ := hP
  have a31 := hA.1.2.2.2
  have c1 : Steps p.tables e below (s₁.setTop (entryFrame m #[.ref a, .ref b, .int (Int32.ofNat o), .int (Int32.ofNat len), .null] 6)) (s₁.setTop (mkF m 0 #[.val (.ref a), .val (.ref b), .val (.int (Int32.ofNat o)), .val (.int (Int32.ofNat len)), .val .null, .unset] [])) := entry rfl
  have c2 : Steps p.tables e below (s₁.setTop (entryFrame m #[.ref a, .ref b, .int (Int32.ofNat o), .int (Int32.ofNat len), .null] 6)) (s₁.setTop (mkF m 1 #[.val (.ref a), .val (.ref b), .val (.int (Int32.ofNat o)), .val (.int (Int32.ofNat len)), .val .null, .unset] [.ref a])) := c1.trans (by
    refine XS.aloadN X0.here hexec rfl (hb hbytes d0) rfl rfl ?_
    exact Steps.refl _)
  obtain ⟨T3, X3, q3, st3⟩ := X0.oinit hexec hown (wks W (objW "java/lang/String" 1)) (g := (mkF m 1 #[.val (.ref a), .val (.ref b), .val (.int (Int32.ofNat o)), .val (.int (Int32.ofNat len)), .val .null, .unset] [.ref a])) rfl (by rw [hml]; rfl) (rest := []) rfl (hb hbytes d1) (W := 0) (by show 2 * 0 + 0 ≤ _; decide) (Nat.le_of_ble_eq_true rfl) (Nat.le_of_ble_eq_true rfl)
  have hh3 := q3.trans hh0
  have c4 : Steps p.tables e below (s₁.setTop (entryFrame m #[.ref a, .ref b, .int (Int32.ofNat o), .int (Int32.ofNat len), .null] 6)) (T3.setTop (mkF m 27 #[.val (.ref a), .val (.ref b), .val (.int (Int32.ofNat o)), .val (.int (Int32.ofNat len)), .val .null, .unset] [])) := (c2.trans (st3 _ (Steps.refl _))).trans (by
    refine XS.iloadN X3.here hexec rfl (hb hbytes d4) rfl ?_
    refine XS.ifYes X3.here hexec rfl (pc0 := 5) rfl (hb hbytes d5) rfl (i0_ne_t (nz32 (by omega) l0)) (by decide) rfl ?_
    exact Steps.refl _)
  obtain ⟨T5, X5, q5, st5⟩ := X3.sget hexec hown (wk W (.fieldLink "java/lang/String" 38 "java/lang/String" "COMPACT_STRINGS" "Z")) s1 (fun _ _ h => by rw [hh3]; exact h) (g := (mkF m 27 #[.val (.ref a), .val (.ref b), .val (.int (Int32.ofNat o)), .val (.int (Int32.ofNat len)), .val .null, .unset] [])) rfl (hb hbytes d27)
  have hh5 := q5.trans hh3
  have c6 : Steps p.tables e below (s₁.setTop (entryFrame m #[.ref a, .ref b, .int (Int32.ofNat o), .int (Int32.ofNat len), .null] 6)) (T5.setTop (mkF m 30 #[.val (.ref a), .val (.ref b), .val (.int (Int32.ofNat o)), .val (.int (Int32.ofNat len)), .val .null, .unset] [.int z])) := c4.trans (st5 _ (Steps.refl _))
  have c7 : Steps p.tables e below (s₁.setTop (entryFrame m #[.ref a, .ref b, .int (Int32.ofNat o), .int (Int32.ofNat len), .null] 6)) (T5.setTop (mkF m 36 #[.val (.ref a), .val (.ref b), .val (.int (Int32.ofNat o)), .val (.int (Int32.ofNat len)), .val .null, .unset] [.int (Int32.ofNat len), .int (Int32.ofNat o), .ref b])) := c6.trans (by
    refine XS.ifNo X5.here hexec rfl (hb hbytes d30) rfl (i0_eq_f hz) ?_
    refine XS.aloadN X5.here hexec rfl (hb hbytes d33) rfl rfl ?_
    refine XS.iloadN X5.here hexec rfl (hb hbytes d34) rfl ?_
    refine XS.iloadN X5.here hexec rfl (hb hbytes d35) rfl ?_
    exact Steps.refl _)
  obtain ⟨v8, T8, X8, E8, g8⟩ := X5.callS hexec (Cmp3.law l b A o len) hown (wks W (staticW "java/lang/String" 177 Cmp3.yN)) (wk W Cmp3.tab) (W := 0) (Nat.le_of_ble_eq_true rfl) (Nat.le_of_ble_eq_true rfl) (Nat.le_refl _) (by show 0 + len ≤ len; omega) (g := (mkF m 36 #[.val (.ref a), .val (.ref b), .val (.int (Int32.ofNat o)), .val (.int (Int32.ofNat len)), .val .null, .unset] [.int (Int32.ofNat len), .int (Int32.ofNat o), .ref b])) rfl (by rw [hml]; rfl) c7 (argsL := [.ref b, .int (Int32.ofNat o), .int (Int32.ofNat len)]) (rest := []) rfl rfl (by show 2 * 0 + 0 ≤ _; decide) (hb hbytes d36) (⟨rfl, hA.mv X5.warmed.alike hh5, l1, l2, hp⟩)
  obtain ⟨e8, z8⟩ := E8
  obtain ⟨rfl, N, n1, n2, n3, n4, n5, n6⟩ := NewArr.mv _ T5 s _ _ hh5.symm (Vm.Alike.refl _) rfl e8
  rw [hh5] at z8
  have hB1 := hB.keep X8.warmed.alike (n6 _ _ hB.1)
  have hne : s.heap.size ≠ a := (Nat.ne_of_lt (Array.getElem?_eq_some_iff.mp hB.1).1).symm
  have c9 : Steps p.tables e below (s₁.setTop (entryFrame m #[.ref a, .ref b, .int (Int32.ofNat o), .int (Int32.ofNat len), .null] 6)) (T8.setTop (mkF m 39 #[.val (.ref a), .val (.ref b), .val (.int (Int32.ofNat o)), .val (.int (Int32.ofNat len)), .val .null, .unset] [.ref s.heap.size])) := g8
  have c10 : Steps p.tables e below (s₁.setTop (entryFrame m #[.ref a, .ref b, .int (Int32.ofNat o), .int (Int32.ofNat len), .null] 6)) (T8.setTop (mkF m 45 #[.val (.ref a), .val (.ref b), .val (.int (Int32.ofNat o)), .val (.int (Int32.ofNat len)), .val .null, .val (.ref s.heap.size)] [.int (Int32.ofNat N.slots.size), .ref s.heap.size, .ref a])) := by
    have hc : Steps p.tables e below (s₁.setTop (entryFrame m #[.ref a, .ref b, .int (Int32.ofNat o), .int (Int32.ofNat len), .null] 6)) (T8.setTop (mkF m 45 #[.val (.ref a), .val (.ref b), .val (.int (Int32.ofNat o)), .val (.int (Int32.ofNat len)), .val .null, .val (.ref s.heap.size)] [.int (Int32.ofNat len), .ref s.heap.size, .ref a])) := c9.trans (by
      refine XS.astore X8.here hexec rfl (hb hbytes d39) rfl rfl rfl ?_
      refine XS.aloadN X8.here hexec rfl (hb hbytes d41) rfl rfl ?_
      refine XS.aload X8.here hexec rfl (hb hbytes d42) rfl rfl ?_
      refine XS.iloadN X8.here hexec rfl (hb hbytes d44) rfl ?_
      exact Steps.refl _)
    rw [n4]; exact hc
  obtain ⟨v11, T11, X11, E11, g11⟩ := X8.callS hexec (CodL.law l s.heap.size N) hown (wks W (staticW "java/lang/String" 47 CodL.yN)) (wk W CodL.tab) (W := 1) (Nat.le_of_ble_eq_true rfl) (Nat.le_of_ble_eq_true rfl) (Nat.le_refl _) (by show 0 + len + 0 ≤ len; omega) (g := (mkF m 45 #[.val (.ref a), .val (.ref b), .val (.int (Int32.ofNat o)), .val (.int (Int32.ofNat len)), .val .null, .val (.ref s.heap.size)] [.int (Int32.ofNat N.slots.size), .ref s.heap.size, .ref a])) rfl (by rw [hml]; rfl) c10 (argsL := [.ref s.heap.size, .int (Int32.ofNat N.slots.size)]) (rest := [.ref a]) rfl rfl (by show 2 * 0 + (1 + 0) ≤ _; decide) (hb hbytes d45) (⟨rfl, n1⟩)
  obtain ⟨rfl, q11⟩ := E11
  have hB11 := hB1.mv (X8.warmed.alike.symm.trans X11.warmed.alike) q11
  have c12 : Steps p.tables e below (s₁.setTop (entryFrame m #[.ref a, .ref b, .int (Int32.ofNat o), .int (Int32.ofNat len), .null] 6)) (T11.setTop (mkF m 48 #[.val (.ref a), .val (.ref b), .val (.int (Int32.ofNat o)), .val (.int (Int32.ofNat len)), .val .null, .val (.ref s.heap.size)] [.int 0, .ref a])) := g11
  obtain ⟨T13, X13, p13, bl13, sl13, st13⟩ := X11.finit hexec hown (wk W (.fieldLink "java/lang/String" 15 "java/lang/String" "coder" "B")) (Or.inr ⟨_, (wk W (.laysFinal "java/lang/String" "java/lang/String" "coder" "B"))⟩) (Or.inl ⟨rfl, hnm⟩) f2 (Or.inl rfl) hB11 (t := .byte) (by decide +kernel) rfl (g := (mkF m 48 #[.val (.ref a), .val (.ref b), .val (.int (Int32.ofNat o)), .val (.int (Int32.ofNat len)), .val .null, .val (.ref s.heap.size)] [.int 0, .ref a])) rfl (rest := []) rfl (hb hbytes d48)
  have c14 : Steps p.tables e below (s₁.setTop (entryFrame m #[.ref a, .ref b, .int (Int32.ofNat o), .int (Int32.ofNat len), .null] 6)) (T13.setTop (mkF m 54 #[.val (.ref a), .val (.ref b), .val (.int (Int32.ofNat o)), .val (.int (Int32.ofNat len)), .val .null, .val (.ref s.heap.size)] [.ref s.heap.size, .ref a])) := (c12.trans (st13 _ (Steps.refl _))).trans (by
    refine XS.aloadN X13.here hexec rfl (hb hbytes d51) rfl rfl ?_
    refine XS.aload X13.here hexec rfl (hb hbytes d52) rfl rfl ?_
    exact Steps.refl _)
  obtain ⟨T15, X15, p15, bl15, sl15, st15⟩ := X13.finit hexec hown (wk W (.fieldLink "java/lang/String" 9 "java/lang/String" "value" "[B")) (Or.inr ⟨_, (wk W (.laysFinal "java/lang/String" "java/lang/String" "value" "[B"))⟩) (Or.inl ⟨rfl, hnm⟩) f1 (Or.inl rfl) bl13 (t := (.array .byte)) (by decide +kernel) rfl (g := (mkF m 54 #[.val (.ref a), .val (.ref b), .val (.int (Int32.ofNat o)), .val (.int (Int32.ofNat len)), .val .null, .val (.ref s.heap.size)] [.ref s.heap.size, .ref a])) rfl (rest := []) rfl (hb hbytes d54)
  have c16 : Steps p.tables e below (s₁.setTop (entryFrame m #[.ref a, .ref b, .int (Int32.ofNat o), .int (Int32.ofNat len), .null] 6)) (T15.setTop (mkF m 57 #[.val (.ref a), .val (.ref b), .val (.int (Int32.ofNat o)), .val (.int (Int32.ofNat len)), .val .null, .val (.ref s.heap.size)] [])) := c14.trans (st15 _ (Steps.refl _))
  have ap := apart (Or.inr ⟨_, (wk W (.laysFinal "java/lang/String" "java/lang/String" "value" "[B"))⟩) (Or.inr ⟨_, (wk W (.laysFinal "java/lang/String" "java/lang/String" "coder" "B"))⟩) f1 f2 (t₁ := .array .byte) (t₂ := .byte) (by decide +kernel) (by decide +kernel) (by decide)
  have al := X8.warmed.alike.symm.trans X15.warmed.alike
  have n7 : T11.heap[s.heap.size]? = some N := by rw [q11]; exact n1.1
  exact ⟨T15, none, _, _, _, X15, by simp, rfl, by omega, (fun _ => rfl), ⟨rfl, _, N, bl15, ((Same.refl D _).set _ (by simp)).set _ (by simp), sl15, (Cell.slots_setSlot_ne _ ap).trans sl13, n1.keep al (p15.other hne (p13.other hne n7)), n2, by rw [al.findClass]; exact n3, n4, n5, fun y c h1 h2 => p15.other h1 (p13.other h1 (by rw [q11]; exact n6 y c h2)), by rw [p15.2.2, p13.2.2, q11]; exact z8⟩, fun fs hl => c16.trans (X15.returnOut hexec hret (hb hbytes d57) hl)⟩
end New4
namespace New1
def yN : MethodName := ⟨"java/lang/String", "<init>", "([C)V"⟩
abbrev yB : ByteArray := jdk_42_method_3_code
theorem d0 : decode yB 0 = .ok (.aload_n 0, 1) := by decide +kernel
theorem d1 : decode yB 1 = .ok (.aload_n 1, 1) := by decide +kernel
theorem d2 : decode yB 2 = .ok (.iconst 0, 1) := by decide +kernel
theorem d3 : decode yB 3 = .ok (.aload_n 1, 1) := by decide +kernel
theorem d4 : decode yB 4 = .ok (.arraylength, 1) := by decide +kernel
theorem d5 : decode yB 5 = .ok (.aconst_null, 1) := by decide +kernel
theorem d6 : decode yB 6 = .ok (.invokespecial 27, 3) := by decide +kernel
theorem d9 : decode yB 9 = .ok (.return_, 1) := by decide +kernel
def site : List Cond := [New4.tab] ++ initW "java/lang/String" 27 New4.yN
def tab : Cond := tabOf yN yB 2 none site
def P (a : Addr) (D : Cell) (fV fC : Field) (b : Addr) (A : Cell) (z : Int32) (args : Array Value) (s : State) : Prop := args = #[.ref a, .ref b] ∧ Blank "java/lang/String" a D s ∧ Found "java/lang/String" "value" "[B" fV s ∧ Found "java/lang/String" "coder" "B" fC s ∧ Ch b A s ∧ StaticIs s "java/lang/String" "COMPACT_STRINGS" "Z" (.int z) ∧ ¬ z = 0 ∧ 0 < A.slots.size ∧ A.slots.size ≤ 536870912 ∧ ∀ i, i < A.slots.size → ¬ 255 < cv A i
def E (a : Addr) (D : Cell) (fV fC : Field) (A : Cell) (r : Option Value) (s u : State) : Prop := Got a D fV fC A 0 A.slots.size r s u
/-- new String(chars), not empty, no char above 255: a Latin-1 String of their low bytes -/
theorem law (l : Launch) (a : Addr) (D : Cell) (fV fC : Field) (b : Addr) (A : Cell) (z : Int32) : Law l yN 2 1 3 52 yB 2 none site (P a D fV fC b A z) (E a D fV fC A) [⟨a, fC.slot⟩, ⟨a, fV.slot⟩] 1 A.slots.size := by
  refine Law.of_walk (plainFor_of_name (by decide +kernel)) (by decide +kernel) (by decide +kernel) (by decide) (fun _ _ h => by rw [h.1]; rfl) (fun _ U U' hal hh h => ⟨h.1, h.2.1.mv hal hh, h.2.2.1.al hal, h.2.2.2.1.al hal, h.2.2.2.2.1.mv hal hh, h.2.2.2.2.2.1.there hal hh, h.2.2.2.2.2.2⟩) (fun r U U' V V' h1 hal h2 h => Got.mv r U U' V V' h1 hal h2 h) ?_
  intro p e s m args below meth c s₁ X0 hexec hbytes hml hret hlk hnm hown hh0 W hP
  obtain ⟨rfl, hB, f1, f2, hA, s1, hz, l0, l2, hp⟩ := hP
  have c1 : Steps p.tables e below (s₁.setTop (entryFrame m #[.ref a, .ref b] 2)) (s₁.setTop (mkF m 0 #[.val (.ref a), .val (.ref b)] [])) := entry rfl
  have c2 : Steps p.tables e below (s₁.setTop (entryFrame m #[.ref a, .ref b] 2)) (s₁.setTop (mkF m 6 #[.val (.ref a), .val (.ref b)] [.null, .int (Int32.ofNat A.slots.size), .int 0, .ref b, .ref a])) := c1.trans (by
    refine XS.aloadN X0.here hexec rfl (hb hbytes d0) rfl rfl ?_
    refine XS.aloadN X0.here hexec rfl (hb hbytes d1) rfl rfl ?_
    refine iconstV X0.here hexec rfl 0 (hb hbytes d2) (by decide) ?_
    refine XS.aloadN X0.here hexec rfl (hb hbytes d3) rfl rfl ?_
    refine X0.alen hexec (hA.1.mv X0.warmed.alike hh0) rfl rfl (hb hbytes d4) ?_
    refine XS.aconstNull X0.here hexec rfl (hb hbytes d5) ?_
    exact Steps.refl _)
  obtain ⟨v3, T3, X3, E3, g3⟩ := X0.callN hexec (New4.law l a D fV fC b A z 0 A.slots.size) rfl hown (wks W (initW "java/lang/String" 27 New4.yN)) (W New4.tab (by simp only [site, List.mem_cons, List.mem_append, true_or, or_true])) (W := 0) (Nat.le_of_ble_eq_true rfl) (Nat.le_of_ble_eq_true rfl) (Nat.le_refl _) (by show 0 + A.slots.size ≤ A.slots.size; omega) (g := (mkF m 6 #[.val (.ref a), .val (.ref b)] [.null, .int (Int32.ofNat A.slots.size), .int (Int32.ofNat 0), .ref b, .ref a])) rfl (by rw [hml]; rfl) c2 (argsL := [.ref b, .int (Int32.ofNat 0), .int (Int32.ofNat A.slots.size), .null]) (rest := []) rfl rfl (by show 2 * 0 + 0 ≤ _; decide) (hb hbytes d6) (⟨rfl, hB.mv X0.warmed.alike hh0, f1.al X0.warmed.alike, f2.al X0.warmed.alike, hA.mv X0.warmed.alike hh0, s1.there X0.warmed.alike hh0, hz, l0, by omega, l2, fun i hi => by rw [Nat.zero_add]; exact hp i hi⟩)
  have e0 := Got.mv _ s₁ s _ _ hh0.symm (Vm.Alike.refl _) rfl E3
  obtain rfl := e0.1
  have c4 : Steps p.tables e below (s₁.setTop (entryFrame m #[.ref a, .ref b] 2)) (T3.setTop (mkF m 9 #[.val (.ref a), .val (.ref b)] [])) := g3
  exact ⟨T3, none, _, _, _, X3, by simp, rfl, by omega, (fun _ => rfl), e0, fun fs hl => c4.trans (X3.returnOut hexec hret (hb hbytes d9) hl)⟩
theorem pays {l : Launch} {R : Room} {p : Program} {e : Env} {below : List Frame} {s : State} {sargs : Array Value} {len W : Nat} (a : Addr) (D : Cell) (fV fC : Field) (b : Addr) (A : Cell) (z : Int32) (htab : tab.before sargs s = true) (hfr : 4 ≤ R.frames) (hlo : W + 65 ≤ R.locals) :
    Back l R p e below s sargs yN len W (fun A₁ a₁ => A₁.cells + 1 ≤ R.cells ∧ A₁.slots + A.slots.size ≤ R.slots ∧ P a D fV fC b A z a₁ A₁.U) (fun A₁ _ v₁ B₁ => E a D fV fC A v₁ A₁.U B₁.U ∧ B₁.locs = A₁.locs ++ [⟨a, fC.slot⟩, ⟨a, fV.slot⟩] ∧ B₁.cells = A₁.cells + 1 ∧ B₁.slots = A₁.slots + A.slots.size) :=
  (law l a D fV fC b A z).pays htab hfr (by omega)
end New1
/-- the byte, read back as charAt reads it, is the char -/
theorem lo8_mask {x : Int32} (h0 : ¬ x < 0) (h1 : ¬ 255 < x) : lo8 x &&& 255 = x := by
  have t : ∀ k : Fin 256, lo8 (Int32.ofNat k.val) &&& 255 = Int32.ofNat k.val := by decide +kernel
  rw [Int32.lt_iff_toInt_lt] at h0 h1
  have e0 : (0 : Int32).toInt = 0 := rfl
  have e1 : (255 : Int32).toInt = 255 := rfl
  obtain ⟨k, hk⟩ : ∃ k : Nat, x.toInt = k := ⟨x.toInt.toNat, by omega⟩
  have hx : x = Int32.ofNat k := Int32.toInt_inj.mp (by rw [hk, Int32.toInt_ofNat_small (by omega)])
  rw [hx]
  exact t ⟨k, by omega⟩
end StrChars
namespace StrChars.Road
open Jvm Sem ClassFile Op Lib Jvm.Stand Jvm.Free Jvm.Free.XT
open Jvm.Lib.Cold (StaticIs)
abbrev ST : String := "java/lang/String"
/-- every table word that New1's law asks, flat -/
abbrev words : List Jvm.Cond := [.code New1.yN New1.yB 2 none, .initialized ST, .methodLink ST 27 New4.yN, .instanceMethod New4.yN,
  .code New4.yN New4.yB 6 none, .fieldLink ST 38 ST "COMPACT_STRINGS" "Z", .laysFinal ST ST "value" "[B", .fieldLink ST 9 ST "value" "[B", .laysFinal ST ST "coder" "B", .fieldLink ST 15 ST "coder" "B",
  .methodLink ST 1 Lib.objectInit, .instanceMethod Lib.objectInit, .code Lib.objectInit ⟨#[0xb1]⟩ 1 none, .methodLink ST 177 Cmp3.yN, .static Cmp3.yN, .methodLink ST 47 CodL.yN, .static CodL.yN,
  .code Cmp3.yN Cmp3.yB 6 (some (.array .byte)), .initialized U16, .arrayClass .byte, .methodLink U16 115 Cmp5.yN, .static Cmp5.yN, .code Cmp5.yN Cmp5.yB 7 (some .int), .code CodL.yN CodL.yB 2 (some .byte)]
theorem tab_of {a : Array Value} {s : State} (h : ∀ w ∈ words, w.before a s = true) : New1.tab.before a s = true := by
  have h5 : Cmp5.tab.before a s = true := unparts (wk h (.code Cmp5.yN Cmp5.yB 7 (some .int))) (wks h (.initialized Cmp5.yN.cls :: Cmp5.site))
  have hc : CodL.tab.before a s = true := unparts (wk h (.code CodL.yN CodL.yB 2 (some .byte))) (wks h (.initialized CodL.yN.cls :: CodL.site))
  have q5 : ∀ w ∈ Cmp5.tab :: words, w.before a s = true := fun w hw => (List.mem_cons.mp hw).elim (fun e => e ▸ h5) (h w)
  have h3 : Cmp3.tab.before a s = true := unparts (wk q5 (.code Cmp3.yN Cmp3.yB 6 (some (.array .byte)))) (wks q5 (.initialized Cmp3.yN.cls :: Cmp3.site))
  have q3 : ∀ w ∈ Cmp3.tab :: CodL.tab :: words, w.before a s = true := fun w hw => (List.mem_cons.mp hw).elim (fun e => e ▸ h3) fun hw => (List.mem_cons.mp hw).elim (fun e => e ▸ hc) (h w)
  have h4 : New4.tab.before a s = true := unparts (wk q3 (.code New4.yN New4.yB 6 none)) (wks q3 (.initialized New4.yN.cls :: New4.site))
  have q4 : ∀ w ∈ New4.tab :: words, w.before a s = true := fun w hw => (List.mem_cons.mp hw).elim (fun e => e ▸ h4) (h w)
  exact unparts (wk q4 (.code New1.yN New1.yB 2 none)) (wks q4 (.initialized New1.yN.cls :: New1.site))
/-- the words ride from the start Z to the walk's own state -/
theorem moved {Z s : State} {a0 args : Array Value} (hZ : Z.Warmed39 s.vm) (hw : ∀ d ∈ words, d.before a0 Z = true) : ∀ d ∈ words, d.before args s = true := fun d hd => by
  have q := hw d hd
  have t : ∀ d ∈ words, d = .arrayClass .byte ∨ (d.onTables && d.keepsFace) = true := by decide +kernel
  rcases t d hd with rfl | t
  · exact RoadKit.mvA hZ q
  · exact RoadKit.mv hZ q t
/-- WHAT COMES BACK, over the tables of the start Z: h the heap at the call, h' behind it -/
def Q (Z : State) (x : Addr) (A : Cell) (h : Heap) (v : Option Value) (h' : Heap) (L : List Loc) : Prop := v = none ∧ (∀ y ∈ L, y.base = x) ∧ RoadKit.Keep h h' [x] ∧ h'.size = h.size + 1 ∧ RoadKit.Exa Z h' x ST ∧ RoadKit.Fld Z h' x ST "value" "[B" (.ref h.size) ∧ RoadKit.Fld Z h' x ST "coder" "B" (.int 0) ∧
  (∃ V : Cell, RoadKit.Arr Z h' h.size V .byte ∧ V.vm = .none ∧ Z.vm.findClass "[B" = some V.cls ∧ V.slots.size = A.slots.size ∧ ∀ j, j < A.slots.size → V.slots[j]? = some (.int (lo8 (cv A j)))) ∧
  ∀ (O n d : String) (w : Value), RoadKit.Fld Z h x O n d w → RoadKit.slotOf Z O n d ≠ RoadKit.slotOf Z ST "value" "[B" → RoadKit.slotOf Z O n d ≠ RoadKit.slotOf Z ST "coder" "B" → RoadKit.Fld Z h' x O n d w
/-- **new String(chars) AT A CALL, IN THE ROAD'S FORM**: for specialBack behind newO: x the fresh String, b the char[] with the cell A -/
theorem back {p : Program} {l : Launch} {e : Env} {R : Room} {s : State} {args : Array Value} {below : List Frame} {len W : Nat} {Z : State} {a0 : Array Value} {h : Heap} (hZ : Z.Warmed39 s.vm) (hw : ∀ d ∈ words, d.before a0 Z = true) {kI : Nat} (wi : (Jvm.Cond.instantiable ST kI).before a0 Z = true)
    {x b : Addr} {A : Cell} {z : Int32} {v0 c0 : Value} (E : RoadKit.Exa Z h x ST) (V : RoadKit.Fld Z h x ST "value" "[B" v0) (C : RoadKit.Fld Z h x ST "coder" "B" c0) (K : RoadKit.Arr Z h b A .char) (hty : Typed .char A) (S : RoadKit.Sta Z h ST "COMPACT_STRINGS" "Z" (.int z)) (hz : ¬ z = 0)
    (l0 : 0 < A.slots.size) (l2 : A.slots.size ≤ 536870912) (hp : ∀ i, i < A.slots.size → ¬ 255 < cv A i) (hfr : 4 ≤ R.frames) (hlo : W + 65 ≤ R.locals) :
    Back l R p e below s args New1.yN len W (fun P a => a = #[.ref x, .ref b] ∧ P.U.heap = h ∧ P.cells + 1 ≤ R.cells ∧ P.slots + A.slots.size ≤ R.slots)
      (fun P _ v B => ∃ L, Q Z x A h v B.U.heap L ∧ B.locs = P.locs ++ L ∧ B.cells = P.cells + 1 ∧ B.slots = P.slots + A.slots.size) := by
  intro m meth c P g ig mk a X hg hsize hdg hW hn hp'
  obtain ⟨rfl, rfl, r1, r2⟩ := hp'
  have al : Z.vm.Alike P.U.vm := hZ.alike.trans X.warmed.alike
  obtain ⟨D, cfV, kV, iV, fV, hD, gV, stV, knV, obV, asV, slV⟩ := id V
  obtain ⟨D', cfC, kC, iC, fC, hD', gC, stC, -, -, asC, slC⟩ := id C
  cases hD.symm.trans hD'
  obtain ⟨D2, kD, e1, e2, e3, e4, e5⟩ := id E
  cases hD.symm.trans e1
  obtain ⟨c2, k2, i1, i2, i3, -⟩ := Cond.instantiable_spec wi
  cases e2.symm.trans i1
  cases e3.symm.trans i2
  obtain ⟨kU, u1, u2⟩ := al.2.2 _ _ e3
  have hB : Blank ST x D P.U := ⟨hD, ⟨knV, fun q hq => by rw [hq] at obV; cases obV⟩, by rw [al.findClass]; exact e2, kU, u1, by rw [u2]; exact i3, by rw [u2]; exact e5 i3⟩
  have F1 : Found ST "value" "[B" fV P.U := ⟨SBG.found_only al ⟨cfV, kV, iV, gV⟩, stV⟩
  have F2 : Found ST "coder" "B" fC P.U := ⟨SBG.found_only al ⟨cfC, kC, iC, gC⟩, stC⟩
  have hA : Ch b A P.U := ⟨⟨K.1, State.isArrayOf_alike al K.2.1, K.2.2, by omega⟩, hty⟩
  have hS : StaticIs P.U ST "COMPACT_STRINGS" "Z" (.int z) := by
    obtain ⟨cfS, iS, kS, fS, st, cS, t1, t2, t3, t4, t5, t6, t7⟩ := S
    exact StaticIs.there (s := { Z with heap := P.U.heap }) ⟨cfS, iS, kS, fS, st, cS, t1, t2, t3, t4, t5, (fun q => by rw [q] at t6; cases t6), t7⟩ al rfl
  obtain ⟨v, B, X', ⟨⟨hv, E', V', q1, q2, q3, q4, q5, q6, q7, q8, q9, q10, q11⟩, hl, hc, hs⟩, st⟩ := New1.pays x D fV fC b A z (tab_of (moved hZ hw)) hfr hlo m meth c P g ig mk _ X hg hsize hdg hW hn ⟨r1, r2, rfl, hB, F1, F2, hA, hS, hz, l0, l2, hp⟩
  have al' : Z.vm.Alike B.U.vm := hZ.alike.trans X'.warmed.alike
  have hsz : E'.slots.size = D.slots.size := by
    obtain ⟨-, -, -, kB, w1, w2, w3⟩ := q1
    obtain ⟨kB', y1, y2⟩ := al'.2.2 _ _ e3
    rw [q2.2.1] at w1
    cases w1.symm.trans y1
    rw [w3, e5 i3, y2]
  refine ⟨v, B, X', ⟨_, ⟨hv, ?_, ⟨by omega, fun y cy hy hn' => q10 y cy (by simpa using hn') hy, fun y cy hy => ?_⟩, q11, ⟨E', _, q1.1, by rw [q2.2.1]; exact e2, by rw [q2.2.1]; exact e3, by rw [q2.1]; exact obV, fun _ => by rw [hsz]; exact e5 i3⟩,
    ⟨E', cfV, kV, iV, fV, q1.1, gV, stV, by rw [q2.1]; exact knV, by rw [q2.1]; exact obV, by rw [q2.2.1]; exact asV, q3⟩, ⟨E', cfC, kC, iC, fC, q1.1, gC, stC, by rw [q2.1]; exact knV, by rw [q2.1]; exact obV, by rw [q2.2.1]; exact asC, q4⟩,
    ⟨V', ⟨q5.1, State.isArrayOf_alike al'.symm q5.2.1, q5.2.2.1⟩, q6, by rw [← al'.findClass]; exact q7, q8, fun j hj => by have := q9 j hj; rwa [Nat.zero_add] at this⟩, fun O n d w F n1 n2 => ?_⟩, hl, hc, hs⟩, st⟩
  · intro y hy
    simp only [List.mem_cons, List.not_mem_nil, or_false] at hy
    rcases hy with rfl | rfl <;> rfl
  · by_cases q : y = x
    · subst q
      cases hD.symm.trans hy
      exact ⟨E', q1.1, q2.2.1, q2.1, hsz⟩
    · exact ⟨cy, q10 y cy q hy, rfl, rfl, rfl⟩
  · obtain ⟨D3, cf, k, i, f, g1, g2, g3, g4, g5, g6, g7⟩ := F
    cases hD.symm.trans g1
    simp only [RoadKit.slotOf, g2, gV, gC, Option.map_some, Option.getD_some] at n1 n2
    exact ⟨E', cf, k, i, f, q1.1, g2, g3, by rw [q2.1]; exact g4, by rw [q2.1]; exact g5, by rw [q2.2.1]; exact g6, by rw [q2.2.2 f.slot (by simp [n1, n2])]; exact g7⟩
end StrChars.Road
namespace StrChars.Road
open Jvm Sem ClassFile Op Lib Jvm.Stand Jvm.Free Jvm.Free.XT
/-- WHAT COMES BACK, the byte[] as a list of values -/
def QA (Z : State) (x : Addr) (zn : Int32) (cs : List Int32) (h : Heap) (v : Option Value) (h' : Heap) (L : List Loc) : Prop := v = none ∧ (∀ y ∈ L, y.base = x) ∧ RoadKit.Keep h h' [x] ∧ h'.size = h.size + 1 ∧ RoadKit.Exa Z h' x ST ∧ RoadKit.Fld Z h' x ST "value" "[B" (.ref h.size) ∧ RoadKit.Fld Z h' x ST "coder" "B" (.int 0) ∧
  (∃ kb, Z.vm.findClass "[B" = some kb ∧ RoadKit.Arv Z h' h.size kb .byte zn (cs.map fun c => .int (lo8 c)) (.int 0)) ∧
  ∀ (O n d : String) (w : Value), RoadKit.Fld Z h x O n d w → RoadKit.slotOf Z O n d ≠ RoadKit.slotOf Z ST "value" "[B" → RoadKit.slotOf Z O n d ≠ RoadKit.slotOf Z ST "coder" "B" → RoadKit.Fld Z h' x O n d w
/-- **new String(chars) AT A CALL, THE ARRAYS AS LISTS**: the char[] at b holds cs, not empty, no char above 255 -/
theorem backArv {p : Program} {l : Launch} {e : Env} {R : Room} {s : State} {args : Array Value} {below : List Frame} {len W : Nat} {Z : State} {a0 : Array Value} {h : Heap} (hZ : Z.Warmed39 s.vm) (hw : ∀ d ∈ words, d.before a0 Z = true) {kI : Nat} (wi : (Jvm.Cond.instantiable ST kI).before a0 Z = true)
    {x b : Addr} {k : ClassId} {zn z : Int32} {cs : List Int32} {dv v0 c0 : Value} (E : RoadKit.Exa Z h x ST) (V : RoadKit.Fld Z h x ST "value" "[B" v0) (C : RoadKit.Fld Z h x ST "coder" "B" c0) (K : RoadKit.Arv Z h b k .char zn (cs.map Value.int) dv) (S : RoadKit.Sta Z h ST "COMPACT_STRINGS" "Z" (.int z)) (hz : ¬ z = 0)
    (hlen : zn.toNatClampNeg = cs.length) (h0 : 0 < cs.length) (hbig : cs.length ≤ 536870912) (hall : ∀ c ∈ cs, ¬ 255 < c) (hfr : 4 ≤ R.frames) (hlo : W + 65 ≤ R.locals) :
    Back l R p e below s args New1.yN len W (fun P a => a = #[.ref x, .ref b] ∧ P.U.heap = h ∧ P.cells + 1 ≤ R.cells ∧ P.slots + cs.length ≤ R.slots)
      (fun P _ v B => ∃ L, QA Z x zn cs h v B.U.heap L ∧ B.locs = P.locs ++ L ∧ B.cells = P.cells + 1 ∧ B.slots = P.slots + cs.length) := by
  obtain ⟨A, K1, K2, K3, K4, K5, K6⟩ := K
  have e : A.slots.size = cs.length := K3.trans hlen
  have hat : ∀ (i : Nat) (hi : i < cs.length), A.slots[i]? = some (.int cs[i]) := fun i hi => by rw [K5 i (by omega)]; simp [List.getD_eq_getElem?_getD, hi]
  have hcv : ∀ (i : Nat) (hi : i < cs.length), cv A i = cs[i] := fun i hi => by unfold cv; rw [hat i hi]
  have hty : Typed .char A := fun i v hv => by
    have hi : i < A.slots.size := (Array.getElem?_eq_some_iff.mp hv).1
    have q := K5 i hi
    rw [hv] at q
    rw [Option.some.inj q]
    exact K6 i hi
  refine Back.mono (back hZ hw wi E V C K1 hty S hz (by omega) (by omega) (fun i hi => by rw [hcv i (by omega)]; exact hall _ (List.getElem_mem _)) hfr hlo) (fun P a hp => ⟨hp.1, hp.2.1, hp.2.2.1, by rw [e]; exact hp.2.2.2⟩) (fun P a v B hp hq => ?_)
  obtain ⟨L, ⟨q1, q2, q3, q4, q5, q6, q7, ⟨V', v1, v2, v3, v4, v5⟩, q9⟩, hl, hc, hs⟩ := hq
  refine ⟨L, ⟨q1, q2, q3, q4, q5, q6, q7, ⟨V'.cls, v3, V', v1, rfl, by rw [v4, e, hlen], K4, fun i hi => ?_, fun i hi => ?_⟩, q9⟩, hl, hc, by rw [hs, e]⟩
  · have hi' : i < cs.length := by omega
    rw [v5 i (by omega), hcv i hi']; simp [List.getD_eq_getElem?_getD, hi']
  · have hi' : i < cs.length := by omega
    simp only [List.getD_eq_getElem?_getD, List.getElem?_map, List.getElem?_eq_getElem hi', Option.map_some, Option.getD_some]
    exact fits_lo8 _
end StrChars.Road
namespace StrChars.Road
open Jvm Sem ClassFile Op Lib Jvm.Stand Jvm.Free Jvm.Free.XT
/-- WHAT COMES BACK, in the writer's own shape -/
def QV (Z : State) (x : Addr) (N : Int32) (bs : List Int32) (h : Heap) (n0 : Nat) (v : Option Value) (h' : Heap) (L : List Loc) : Prop := v = none ∧ RoadKit.Fr n0 L ∧ RoadKit.Keep h h' [x] ∧ RoadKit.Exa Z h' x ST ∧ RoadKit.Fld Z h' x ST "coder" "B" (.int 0) ∧
  ∃ (t : Addr) (kb : ClassId), n0 ≤ t ∧ h.size ≤ t ∧ ¬ t = x ∧ RoadKit.Fld Z h' x ST "value" "[B" (.ref t) ∧ RoadKit.Arv Z h' t kb .byte N (bs.map Value.int) (.int 0)
/-- **new String(chars) AT A CALL, FOR THE WRITER**: a char[] of n known ints, each 0 to 255 -/
theorem backV {p : Program} {l : Launch} {e : Env} {R : Room} {s : State} {args : Array Value} {below : List Frame} {len W : Nat} {Z : State} {a0 : Array Value} {h : Heap} (hZ : Z.Warmed39 s.vm) (hw : ∀ d ∈ words, d.before a0 Z = true) {kI : Nat} (wi : (Jvm.Cond.instantiable ST kI).before a0 Z = true)
    {x b : Addr} {kC : ClassId} {cs bs : List Int32} {d v0 c0 : Value} {z N : Int32} {n n0 : Nat} (hx0 : n0 ≤ x) (hh0 : n0 ≤ h.size) (E : RoadKit.Exa Z h x ST) (V : RoadKit.Fld Z h x ST "value" "[B" v0) (C : RoadKit.Fld Z h x ST "coder" "B" c0) (K : RoadKit.Arv Z h b kC .char N (cs.map Value.int) d) (S : RoadKit.Sta Z h ST "COMPACT_STRINGS" "Z" (.int z)) (hz : ¬ z = 0)
    (hn : cs.length = n) (hN : N = Int32.ofNat n) (l0 : 0 < n) (l2 : n ≤ 4000) (hp : ∀ c ∈ cs, ¬ c < 0 ∧ ¬ (255 : Int32) < c) (hb : bs = cs.map (fun c => c.toInt8.toInt32)) (hfr : 4 ≤ R.frames) (hlo : W + 65 ≤ R.locals) :
    Back l R p e below s args (⟨"java/lang/String", "<init>", "([C)V"⟩ : MethodName) len W (fun P a => a = #[.ref x, .ref b] ∧ P.U.heap = h ∧ P.cells + 1 ≤ R.cells ∧ P.slots + n ≤ R.slots)
      (fun P _ v B => ∃ L, QV Z x N bs h n0 v B.U.heap L ∧ B.locs = P.locs ++ L ∧ B.cells = P.cells + 1 ∧ B.slots = P.slots + n) := by
  subst hn hN hb
  refine Back.mono (backArv hZ hw wi E V C K S hz (n32 (by omega)) l0 (by omega) (fun c hc => (hp c hc).2) hfr hlo) (fun P a hp => hp) (fun P a v B hp hq => ?_)
  obtain ⟨L, ⟨q1, q2, q3, q4, q5, q6, q7, ⟨kb, v1, v2⟩, q9⟩, hl, hc, hs⟩ := hq
  exact ⟨L, ⟨q1, fun y hy => by rw [q2 y hy]; exact hx0, q3, q5, q7, h.size, kb, hh0, Nat.le_refl _, Nat.ne_of_gt E.lt, q6, by rw [List.map_map]; exact v2⟩, hl, hc, hs⟩
end StrChars.Road
namespace StrChars
open Jvm Sem ClassFile Op Lib Jvm.Stand Jvm.Free.XT Jvm.Free.ALB Jvm.Free.JM Jvm.Free
open Jvm.Lib.Cold (StaticIs)
def hi8 (x : Int32) : Int32 := lo8 (x >>> ((8 : Int32) &&& 31))
/-- what StringUTF16.getChar makes of two bytes -/
def pairCh (u v : Int32) : Int32 := (((u &&& 255) <<< ((0 : Int32) &&& 31)) ||| ((v &&& 255) <<< ((8 : Int32) &&& 31))).toUInt32.toUInt16.toUInt32.toInt32
theorem shr0 (c : Int32) : c >>> ((0 : Int32) &&& 31) = c := by
  have e : ((0 : Int32) &&& 31) = 0 := by decide
  rw [e]
  apply Int32.toBitVec_inj.mp
  rw [Int32.toBitVec_shiftRight]
  have e1 : ((0 : Int32).toBitVec.smod 32) = 0#32 := by decide
  rw [e1, BitVec.sshiftRight_eq']
  exact BitVec.sshiftRight_zero
theorem lo8_and (x : Int32) : (lo8 x &&& 255).toBitVec.toNat = x.toBitVec.toNat % 256 := by
  have h : (lo8 x).toBitVec = (x.toBitVec.signExtend 8).signExtend 32 := by rw [lo8, Int8.toBitVec_toInt32, Int32.toBitVec_toInt8]
  rw [Int32.toBitVec_and, BitVec.toNat_and, h]
  have e : ((x.toBitVec.signExtend 8).signExtend 32).toNat % 256 = x.toBitVec.toNat % 256 := by
    rw [BitVec.toNat_signExtend]
    have hlt := x.toBitVec.isLt
    simp only [BitVec.toNat_setWidth, BitVec.toNat_signExtend]
    split <;> split <;> omega
  rw [← e]
  exact Nat.and_two_pow_sub_one_eq_mod _ 8
theorem pair_says {c : Int32} (h0 : ¬ c < 0) (h1 : ¬ 65535 < c) : pairCh (lo8 c) (hi8 c) = c := by
  rw [Int32.lt_iff_toInt_lt] at h0 h1
  have e0 : (0 : Int32).toInt = 0 := rfl
  have e1 : (65535 : Int32).toInt = 65535 := rfl
  have hc : c.toInt = c.toBitVec.toNat := by
    have := c.toBitVec.isLt
    have e : c.toInt = c.toBitVec.toInt := rfl
    rw [e] at h0 h1
    rw [e]
    rw [BitVec.toInt_eq_toNat_cond] at h0 h1 ⊢
    split at h0 <;> split <;> omega
  have hn : c.toBitVec.toNat < 65536 := by omega
  have a1 := lo8_and c
  have a2 : (hi8 c &&& 255).toBitVec.toNat = c.toBitVec.toNat / 256 := by
    rw [hi8, lo8_and]
    have e : ((8 : Int32) &&& 31) = 8 := by decide
    rw [e, Int32.toBitVec_shiftRight]
    have e2 : ((8 : Int32).toBitVec.smod 32) = 8#32 := by decide
    rw [e2, BitVec.sshiftRight_eq', BitVec.toNat_sshiftRight_of_msb_false (by rw [BitVec.msb_eq_false_iff_two_mul_lt]; omega)]
    show c.toBitVec.toNat >>> 8 % 256 = _
    rw [Nat.shiftRight_eq_div_pow]
    omega
  unfold pairCh
  apply Int32.toBitVec_inj.mp
  apply BitVec.eq_of_toNat_eq
  have f0 : ((0 : Int32) &&& 31) = 0 := by decide
  have f8 : ((8 : Int32) &&& 31) = 8 := by decide
  rw [f0, f8]
  have g : (((lo8 c &&& 255) <<< (0 : Int32)) ||| ((hi8 c &&& 255) <<< (8 : Int32))).toBitVec.toNat = c.toBitVec.toNat := by
    rw [Int32.toBitVec_or, Int32.toBitVec_shiftLeft, Int32.toBitVec_shiftLeft]
    have s0 : ((0 : Int32).toBitVec.smod 32) = 0#32 := by decide
    have s8 : ((8 : Int32).toBitVec.smod 32) = 8#32 := by decide
    rw [s0, s8, BitVec.toNat_or]
    simp only [BitVec.shiftLeft_eq', BitVec.toNat_shiftLeft, a1, a2]
    show (c.toBitVec.toNat % 256) <<< 0 % 2 ^ 32 ||| (c.toBitVec.toNat / 256) <<< 8 % 2 ^ 32 = _
    rw [Nat.shiftLeft_zero, Nat.mod_eq_of_lt (show c.toBitVec.toNat % 256 < 2 ^ 32 by omega), Nat.mod_eq_of_lt (show (c.toBitVec.toNat / 256) <<< 8 < 2 ^ 32 by rw [Nat.shiftLeft_eq]; omega), Nat.or_comm, ← Nat.shiftLeft_add_eq_or_of_lt (by omega), Nat.shiftLeft_eq]
    omega
  show BitVec.toNat (((((lo8 c &&& 255) <<< (0 : Int32)) ||| ((hi8 c &&& 255) <<< (8 : Int32))).toBitVec.setWidth 16).setWidth 32) = _
  rw [BitVec.toNat_setWidth, BitVec.toNat_setWidth, g]
  omega
end StrChars
namespace StrChars
open Jvm Sem ClassFile Op Lib Jvm.Stand Jvm.Free.XT Jvm.Free.ALB Jvm.Free.JM Jvm.Free
open Jvm.Lib.Cold (StaticIs)
theorem shr1 {n : Nat} (h : 2 * n < 2 ^ 31) : Int32.ofNat (2 * n) >>> ((1 : Int32) &&& 31) = Int32.ofNat n := by
  have e : ((1 : Int32) &&& 31) = 1 := by decide
  rw [e]
  apply Int32.toBitVec_inj.mp
  rw [Int32.toBitVec_shiftRight]
  have e1 : ((1 : Int32).toBitVec.smod 32) = 1#32 := by decide
  have hm : (BitVec.ofNat 32 (2 * n)).toNat = 2 * n := by rw [BitVec.toNat_ofNat, Nat.mod_eq_of_lt (by omega)]
  rw [e1, BitVec.sshiftRight_eq']
  apply BitVec.eq_of_toNat_eq
  show ((BitVec.ofNat 32 (2 * n)).sshiftRight 1).toNat = (BitVec.ofNat 32 n).toNat
  rw [BitVec.toNat_sshiftRight_of_msb_false (by rw [BitVec.msb_eq_false_iff_two_mul_lt, hm]; omega), hm, BitVec.toNat_ofNat, Nat.shiftRight_eq_div_pow]
  omega
/-- charAt's cast of a byte read back -/
def chr8 (u : Int32) : Int32 := (u &&& 255).toUInt32.toUInt16.toUInt32.toInt32
theorem chr8_lo8 {c : Int32} (h0 : ¬ c < 0) (h1 : ¬ 255 < c) : chr8 (lo8 c) = c := by
  have t : ∀ k : Fin 256, (Int32.ofNat k.val).toUInt32.toUInt16.toUInt32.toInt32 = Int32.ofNat k.val := by decide +kernel
  unfold chr8
  rw [lo8_mask h0 h1]
  rw [Int32.lt_iff_toInt_lt] at h0 h1
  have e0 : (0 : Int32).toInt = 0 := rfl
  have e1 : (255 : Int32).toInt = 255 := rfl
  obtain ⟨k, hk⟩ : ∃ k : Nat, c.toInt = k := ⟨c.toInt.toNat, by omega⟩
  have hx : c = Int32.ofNat k := Int32.toInt_inj.mp (by rw [hk, Int32.toInt_ofNat_small (by omega)])
  rw [hx]
  exact t ⟨k, by omega⟩
theorem narrow_ch {c : Int32} (h0 : ¬ c < 0) (h1 : ¬ 65535 < c) : narrow .char (.int c) = .int c := by
  have q : narrow .char (.int (pairCh (lo8 c) (hi8 c))) = .int (pairCh (lo8 c) (hi8 c)) := narrow_c _
  rwa [pair_says h0 h1] at q
/-- the array's cell V codes the n chars f 0 .. f (n - 1) by the coder cd, as the JDK does: coder 1 just where some char is above 255 -/
def Cod (cd : Int32) (n : Nat) (f : Nat → Int32) (V : Cell) : Prop := (cd = 0 ∧ V.slots.size = n ∧ ∀ j, j < n → V.slots[j]? = some (.int (lo8 (f j))) ∧ ¬ 255 < f j) ∨ (cd = 1 ∧ V.slots.size = 2 * n ∧ (∀ j, j < n → V.slots[2 * j]? = some (.int (lo8 (f j))) ∧ V.slots[2 * j + 1]? = some (.int (hi8 (f j)))) ∧ ∃ j, j < n ∧ 255 < f j)
theorem Cod.cd {cd : Int32} {n : Nat} {f : Nat → Int32} {V : Cell} (h : Cod cd n f V) : cd = 0 ∨ cd = 1 := h.imp (fun q => q.1) fun q => q.1
theorem Cod.len {cd : Int32} {n : Nat} {f : Nat → Int32} {V : Cell} (h : Cod cd n f V) (hs : V.slots.size < 2 ^ 31) : Int32.ofNat V.slots.size >>> (cd &&& 31) = Int32.ofNat n := by
  rcases h with ⟨rfl, h, -⟩ | ⟨rfl, h, -⟩
  · rw [shr0, h]
  · rw [h, shr1 (by omega)]
/-- **x is a String of the n chars f 0 .. f (n - 1)**, Latin-1 or UTF-16; its array at t has the cell V -/
def Txt (x t : Addr) (V : Cell) (cd : Int32) (n : Nat) (f : Nat → Int32) (U : State) : Prop := Exact "java/lang/String" x U ∧ Has x "java/lang/String" "value" "[B" (.ref t) U ∧ Has x "java/lang/String" "coder" "B" (.int cd) U ∧ XT.Arr .byte t V U ∧ Cod cd n f V ∧ ∀ j, j < n → ¬ f j < 0 ∧ ¬ 65535 < f j
theorem Txt.mv {x t : Addr} {V : Cell} {cd : Int32} {n : Nat} {f : Nat → Int32} {U U' : State} (h : Txt x t V cd n f U) (hal : U.vm.Alike U'.vm) (hh : U'.heap = U.heap) : Txt x t V cd n f U' := ⟨h.1.mv hal hh, h.2.1.mv hal hh, h.2.2.1.mv hal hh, h.2.2.2.1.mv hal hh, h.2.2.2.2⟩
namespace Cdr
def yN : MethodName := ⟨"java/lang/String", "coder", "()B"⟩
abbrev yB : ByteArray := jdk_42_method_152_code
theorem d0 : decode yB 0 = .ok (.getstatic 38, 3) := by decide +kernel
theorem d3 : decode yB 3 = .ok (.ifCond (.eq) 10, 3) := by decide +kernel
theorem d6 : decode yB 6 = .ok (.aload_n 0, 1) := by decide +kernel
theorem d7 : decode yB 7 = .ok (.getfield 15, 3) := by decide +kernel
theorem d10 : decode yB 10 = .ok (.goto 4, 3) := by decide +kernel
theorem d14 : decode yB 14 = .ok (.ireturn, 1) := by decide +kernel
def site : List Cond := [.fieldLink "java/lang/String" 38 "java/lang/String" "COMPACT_STRINGS" "Z", .fieldLink "java/lang/String" 15 "java/lang/String" "coder" "B"]
def tab : Cond := tabOf yN yB 1 (some .byte) site
def P (x : Addr) (cd z : Int32) (args : Array Value) (s : State) : Prop := args = #[.ref x] ∧ Has x "java/lang/String" "coder" "B" (.int cd) s ∧ (cd = 0 ∨ cd = 1) ∧ StaticIs s "java/lang/String" "COMPACT_STRINGS" "Z" (.int z) ∧ ¬ z = 0
def E (cd : Int32) (r : Option Value) (s u : State) : Prop := XT.PureE (some (.int cd)) r s u
theorem law (l : Launch) (x : Addr) (cd z : Int32) : Law l yN 1 0 0 0 yB 1 (some .byte) site (P x cd z) (E cd) [] 0 0 := by
  refine Law.of_walk (plainFor_of_name (by decide +kernel)) (by decide +kernel) (by decide +kernel) (by decide) (fun _ _ h => by rw [h.1]; rfl) (fun _ U U' hal hh h => ⟨h.1, h.2.1.mv hal hh, h.2.2.1, h.2.2.2.1.there hal hh, h.2.2.2.2⟩) (fun r U U' V V' h1 hal h2 h => XT.PureE.mv r U U' V V' h1 hal h2 h) ?_
  intro p e s m args below meth c s₁ X0 hexec hbytes hml hret hlk hnm hown hh0 W hP
  obtain ⟨rfl, hx, hc, s1, hz⟩ := hP
  have c1 : Steps p.tables e below (s₁.setTop (entryFrame m #[.ref x] 1)) (s₁.setTop (mkF m 0 #[.val (.ref x)] [])) := entry rfl
  obtain ⟨T2, X2, q2, st2⟩ := X0.sget hexec hown (wk W (.fieldLink "java/lang/String" 38 "java/lang/String" "COMPACT_STRINGS" "Z")) s1 (fun _ _ h => by rw [hh0]; exact h) (g := (mkF m 0 #[.val (.ref x)] [])) rfl (hb hbytes d0)
  have hh2 := q2.trans hh0
  have c3 : Steps p.tables e below (s₁.setTop (entryFrame m #[.ref x] 1)) (T2.setTop (mkF m 7 #[.val (.ref x)] [.ref x])) := (c1.trans (st2 _ (Steps.refl _))).trans (by
    refine XS.ifNo X2.here hexec rfl (hb hbytes d3) rfl (i0_eq_f hz) ?_
    refine XS.aloadN X2.here hexec rfl (hb hbytes d6) rfl rfl ?_
    exact Steps.refl _)
  obtain ⟨T4, X4, q4, st4⟩ := X2.hget hexec hown (wk W (.fieldLink "java/lang/String" 15 "java/lang/String" "coder" "B")) (hx.mv X2.warmed.alike hh2) (g := (mkF m 7 #[.val (.ref x)] [.ref x])) rfl (rest := []) rfl (hb hbytes d7)
  have c5 : Steps p.tables e below (s₁.setTop (entryFrame m #[.ref x] 1)) (T4.setTop (mkF m 14 #[.val (.ref x)] [.int cd])) := (c3.trans (st4 _ (Steps.refl _))).trans (by
    refine XS.goto X4.here hexec rfl (pc0 := 10) rfl (hb hbytes d10) (by decide) rfl ?_
    exact Steps.refl _)
  exact ⟨T4, some (.int cd), _, _, _, X4, rfl, rfl, rfl, (fun h => by cases h), ⟨rfl, q4.trans hh2⟩, fun fs hl => c5.trans (X4.ireturnOut hexec hret (by rcases hc with rfl | rfl <;> rfl) (Or.inr (Or.inr (Or.inl rfl))) (hb hbytes d14) hl)⟩
end Cdr
namespace Len
def yN : MethodName := ⟨"java/lang/String", "length", "()I"⟩
abbrev yB : ByteArray := jdk_42_method_54_code
theorem d0 : decode yB 0 = .ok (.aload_n 0, 1) := by decide +kernel
theorem d1 : decode yB 1 = .ok (.getfield 9, 3) := by decide +kernel
theorem d4 : decode yB 4 = .ok (.arraylength, 1) := by decide +kernel
theorem d5 : decode yB 5 = .ok (.aload_n 0, 1) := by decide +kernel
theorem d6 : decode yB 6 = .ok (.invokevirtual 335, 3) := by decide +kernel
theorem d9 : decode yB 9 = .ok (.ishr, 1) := by decide +kernel
theorem d10 : decode yB 10 = .ok (.ireturn, 1) := by decide +kernel
def site : List Cond := [.fieldLink "java/lang/String" 9 "java/lang/String" "value" "[B", Cdr.tab] ++ virtW "java/lang/String" 335 "java/lang/String" Cdr.yN Cdr.yN
def tab : Cond := tabOf yN yB 1 (some .int) site
def P (x t : Addr) (V : Cell) (cd : Int32) (n : Nat) (f : Nat → Int32) (z : Int32) (args : Array Value) (s : State) : Prop := args = #[.ref x] ∧ Txt x t V cd n f s ∧ StaticIs s "java/lang/String" "COMPACT_STRINGS" "Z" (.int z) ∧ ¬ z = 0
def E (n : Nat) (r : Option Value) (s u : State) : Prop := XT.PureE (some (.int (Int32.ofNat n))) r s u
/-- length() of a String of n chars, in either coding -/
theorem law (l : Launch) (x t : Addr) (V : Cell) (cd : Int32) (n : Nat) (f : Nat → Int32) (z : Int32) : Law l yN 1 0 1 13 yB 1 (some .int) site (P x t V cd n f z) (E n) [] 0 0 := by
  refine Law.of_walk (plainFor_of_name (by decide +kernel)) (by decide +kernel) (by decide +kernel) (by decide) (fun _ _ h => by rw [h.1]; rfl) (fun _ U U' hal hh h => ⟨h.1, h.2.1.mv hal hh, h.2.2.1.there hal hh, h.2.2.2⟩) (fun r U U' V V' h1 hal h2 h => XT.PureE.mv r U U' V V' h1 hal h2 h) ?_
  intro p e s m args below meth c s₁ X0 hexec hbytes hml hret hlk hnm hown hh0 W hP
  obtain ⟨rfl, hx, s1, hz⟩ := hP
  have v31 := hx.2.2.2.1.2.2.2
  have c1 : Steps p.tables e below (s₁.setTop (entryFrame m #[.ref x] 1)) (s₁.setTop (mkF m 1 #[.val (.ref x)] [.ref x])) := Steps.trans (entry rfl) (by
    show Steps p.tables e below (s₁.setTop (mkF m 0 #[.val (.ref x)] [])) _
    refine XS.aloadN X0.here hexec rfl (hb hbytes d0) rfl rfl ?_
    exact Steps.refl _)
  obtain ⟨T2, X2, q2, st2⟩ := X0.hget hexec hown (wk W (.fieldLink "java/lang/String" 9 "java/lang/String" "value" "[B")) (hx.mv X0.warmed.alike hh0).2.1 (g := (mkF m 1 #[.val (.ref x)] [.ref x])) rfl (rest := []) rfl (hb hbytes d1)
  have hh2 := q2.trans hh0
  have hx2 := hx.mv X2.warmed.alike hh2
  have c3 : Steps p.tables e below (s₁.setTop (entryFrame m #[.ref x] 1)) (T2.setTop (mkF m 6 #[.val (.ref x)] [.ref x, .int (Int32.ofNat V.slots.size)])) := (c1.trans (st2 _ (Steps.refl _))).trans (by
    refine X2.alen hexec hx2.2.2.2.1 rfl rfl (hb hbytes d4) ?_
    refine XS.aloadN X2.here hexec rfl (hb hbytes d5) rfl rfl ?_
    exact Steps.refl _)
  obtain ⟨v4, T4, X4, E4, g4⟩ := X2.callV hexec (Cdr.law l x cd z) hown (wks W (virtW "java/lang/String" 335 "java/lang/String" Cdr.yN Cdr.yN)) rfl (by decide) (wk W Cdr.tab) (W := 1) (Nat.le_of_ble_eq_true rfl) (Nat.le_of_ble_eq_true rfl) (Nat.le_refl _) (Nat.le_refl _) (hx2.1.fc X2.warmed.alike) hx2.1.is (g := (mkF m 6 #[.val (.ref x)] [.ref x, .int (Int32.ofNat V.slots.size)])) rfl (by rw [hml]; rfl) c3 (argsL := []) (rest := [.int (Int32.ofNat V.slots.size)]) rfl rfl (by show 2 * 0 + (1 + 0) ≤ _; decide) (hb hbytes d6) (⟨rfl, hx2.2.2.1, hx.2.2.2.2.1.cd, s1.there X2.warmed.alike hh2, hz⟩)
  obtain ⟨rfl, q4⟩ := E4
  have c5 : Steps p.tables e below (s₁.setTop (entryFrame m #[.ref x] 1)) (T4.setTop (mkF m 10 #[.val (.ref x)] [.int (Int32.ofNat V.slots.size >>> (cd &&& 31))])) := Steps.trans g4 (by
    refine ishr X4.here hexec rfl (hb hbytes d9) rfl ?_
    exact Steps.refl _)
  rw [hx.2.2.2.2.1.len v31] at c5
  exact ⟨T4, some (.int (Int32.ofNat n)), _, _, _, X4, rfl, rfl, rfl, (fun h => by cases h), ⟨rfl, q4.trans hh2⟩, fun fs hl => c5.trans (X4.ireturnOut hexec hret rfl (Or.inl rfl) (hb hbytes d10) hl)⟩
theorem pays {l : Launch} {R : Room} {p : Program} {e : Env} {below : List Frame} {s : State} {sargs : Array Value} {len W : Nat} (x t : Addr) (V : Cell) (cd : Int32) (n : Nat) (f : Nat → Int32) (z : Int32) (htab : tab.before sargs s = true) (hfr : 2 ≤ R.frames) (hlo : W + 25 ≤ R.locals) :
    Back l R p e below s sargs yN len W (fun A₁ a₁ => A₁.cells + 0 ≤ R.cells ∧ A₁.slots + 0 ≤ R.slots ∧ P x t V cd n f z a₁ A₁.U) (fun A₁ _ v₁ B₁ => E n v₁ A₁.U B₁.U ∧ B₁.locs = A₁.locs ++ [] ∧ B₁.cells = A₁.cells + 0 ∧ B₁.slots = A₁.slots + 0) :=
  (law l x t V cd n f z).pays htab hfr (by omega)
end Len
namespace IsL
def yN : MethodName := ⟨"java/lang/String", "isLatin1", "()Z"⟩
abbrev yB : ByteArray := jdk_42_method_154_code
theorem d0 : decode yB 0 = .ok (.getstatic 38, 3) := by decide +kernel
theorem d3 : decode yB 3 = .ok (.ifCond (.eq) 14, 3) := by decide +kernel
theorem d6 : decode yB 6 = .ok (.aload_n 0, 1) := by decide +kernel
theorem d7 : decode yB 7 = .ok (.getfield 15, 3) := by decide +kernel
theorem d10 : decode yB 10 = .ok (.ifCond (.ne) 7, 3) := by decide +kernel
theorem d13 : decode yB 13 = .ok (.iconst 1, 1) := by decide +kernel
theorem d14 : decode yB 14 = .ok (.goto 4, 3) := by decide +kernel
theorem d17 : decode yB 17 = .ok (.iconst 0, 1) := by decide +kernel
theorem d18 : decode yB 18 = .ok (.ireturn, 1) := by decide +kernel
def site : List Cond := [.fieldLink "java/lang/String" 38 "java/lang/String" "COMPACT_STRINGS" "Z", .fieldLink "java/lang/String" 15 "java/lang/String" "coder" "B"]
def tab : Cond := tabOf yN yB 1 (some .boolean) site
def P (x : Addr) (cd z : Int32) (args : Array Value) (s : State) : Prop := args = #[.ref x] ∧ Has x "java/lang/String" "coder" "B" (.int cd) s ∧ (cd = 0 ∨ cd = 1) ∧ StaticIs s "java/lang/String" "COMPACT_STRINGS" "Z" (.int z) ∧ ¬ z = 0
def E (cd : Int32) (r : Option Value) (s u : State) : Prop := XT.PureE (some (.int (1 - cd))) r s u
theorem law (l : Launch) (x : Addr) (cd z : Int32) : Law l yN 1 0 0 0 yB 1 (some .boolean) site (P x cd z) (E cd) [] 0 0 := by
  refine Law.of_walk (plainFor_of_name (by decide +kernel)) (by decide +kernel) (by decide +kernel) (by decide) (fun _ _ h => by rw [h.1]; rfl) (fun _ U U' hal hh h => ⟨h.1, h.2.1.mv hal hh, h.2.2.1, h.2.2.2.1.there hal hh, h.2.2.2.2⟩) (fun r U U' V V' h1 hal h2 h => XT.PureE.mv r U U' V V' h1 hal h2 h) ?_
  intro p e s m args below meth c s₁ X0 hexec hbytes hml hret hlk hnm hown hh0 W hP
  obtain ⟨rfl, hx, hc, s1, hz⟩ := hP
  have c1 : Steps p.tables e below (s₁.setTop (entryFrame m #[.ref x] 1)) (s₁.setTop (mkF m 0 #[.val (.ref x)] [])) := entry rfl
  obtain ⟨T2, X2, q2, st2⟩ := X0.sget hexec hown (wk W (.fieldLink "java/lang/String" 38 "java/lang/String" "COMPACT_STRINGS" "Z")) s1 (fun _ _ h => by rw [hh0]; exact h) (g := (mkF m 0 #[.val (.ref x)] [])) rfl (hb hbytes d0)
  have hh2 := q2.trans hh0
  have c3 : Steps p.tables e below (s₁.setTop (entryFrame m #[.ref x] 1)) (T2.setTop (mkF m 7 #[.val (.ref x)] [.ref x])) := (c1.trans (st2 _ (Steps.refl _))).trans (by
    refine XS.ifNo X2.here hexec rfl (hb hbytes d3) rfl (i0_eq_f hz) ?_
    refine XS.aloadN X2.here hexec rfl (hb hbytes d6) rfl rfl ?_
    exact Steps.refl _)
  obtain ⟨T4, X4, q4, st4⟩ := X2.hget hexec hown (wk W (.fieldLink "java/lang/String" 15 "java/lang/String" "coder" "B")) (hx.mv X2.warmed.alike hh2) (g := (mkF m 7 #[.val (.ref x)] [.ref x])) rfl (rest := []) rfl (hb hbytes d7)
  have c5 : Steps p.tables e below (s₁.setTop (entryFrame m #[.ref x] 1)) (T4.setTop (mkF m 10 #[.val (.ref x)] [.int cd])) := c3.trans (st4 _ (Steps.refl _))
  have c6 : Steps p.tables e below (s₁.setTop (entryFrame m #[.ref x] 1)) (T4.setTop (mkF m 18 #[.val (.ref x)] [.int (1 - cd)])) := by
    rcases hc with rfl | rfl
    · exact c5.trans (by
        refine XS.ifNo X4.here hexec rfl (hb hbytes d10) rfl (i0_ne_f rfl) ?_
        refine iconstV X4.here hexec rfl 1 (hb hbytes d13) (by decide) ?_
        refine XS.goto X4.here hexec rfl (pc0 := 14) rfl (hb hbytes d14) (by decide) rfl ?_
        exact Steps.refl _)
    · exact c5.trans (by
        refine XS.ifYes X4.here hexec rfl (pc0 := 10) rfl (hb hbytes d10) rfl (i0_ne_t (by decide)) (by decide) rfl ?_
        refine iconstV X4.here hexec rfl 0 (hb hbytes d17) (by decide) ?_
        exact Steps.refl _)
  exact ⟨T4, some (.int (1 - cd)), _, _, _, X4, rfl, rfl, rfl, (fun h => by cases h), ⟨rfl, q4.trans hh2⟩, fun fs hl => c6.trans (X4.ireturnOut hexec hret (by rcases hc with rfl | rfl <;> rfl) (Or.inr (Or.inl rfl)) (hb hbytes d18) hl)⟩
end IsL
namespace LChA
def yN : MethodName := ⟨"java/lang/StringLatin1", "charAt", "([BI)C"⟩
abbrev yB : ByteArray := jdk_43_method_2_code
theorem d0 : decode yB 0 = .ok (.iload_n 1, 1) := by decide +kernel
theorem d1 : decode yB 1 = .ok (.aload_n 0, 1) := by decide +kernel
theorem d2 : decode yB 2 = .ok (.arraylength, 1) := by decide +kernel
theorem d3 : decode yB 3 = .ok (.invokestatic 9, 3) := by decide +kernel
theorem d6 : decode yB 6 = .ok (.aload_n 0, 1) := by decide +kernel
theorem d7 : decode yB 7 = .ok (.iload_n 1, 1) := by decide +kernel
theorem d8 : decode yB 8 = .ok (.baload, 1) := by decide +kernel
theorem d9 : decode yB 9 = .ok (.sipush 255, 3) := by decide +kernel
theorem d12 : decode yB 12 = .ok (.iand, 1) := by decide +kernel
theorem d13 : decode yB 13 = .ok (.i2c, 1) := by decide +kernel
theorem d14 : decode yB 14 = .ok (.ireturn, 1) := by decide +kernel
def site : List Cond := [JO.Str_checkIndex.tab] ++ staticW "java/lang/StringLatin1" 9 JO.Str_checkIndex.yN
def tab : Cond := tabOf yN yB 2 (some .char) site
def P (t : Addr) (V : Cell) (i : Nat) (u : Int32) (fm : Value) (args : Array Value) (s : State) : Prop := args = #[.ref t, .int (Int32.ofNat i)] ∧ XT.Arr .byte t V s ∧ V.slots[i]? = some (.int u) ∧ (StaticIs s "jdk/internal/util/Preconditions" "SIOOBE_FORMATTER" "Ljava/util/function/BiFunction;" fm ∧ fm.isRef = true)
def E (u : Int32) (r : Option Value) (s w : State) : Prop := XT.PureE (some (.int (chr8 u))) r s w
theorem law (l : Launch) (t : Addr) (V : Cell) (i : Nat) (u : Int32) (fm : Value) : Law l yN 2 2 2 27 yB 2 (some .char) site (P t V i u fm) (E u) [] 0 0 := by
  refine Law.of_walk (plainFor_of_name (by decide +kernel)) (by decide +kernel) (by decide +kernel) (by decide) (fun _ _ h => by rw [h.1]; rfl) (fun _ U U' hal hh h => ⟨h.1, h.2.1.mv hal hh, h.2.2.1, h.2.2.2.1.there hal hh, h.2.2.2.2⟩) (fun r U U' V V' h1 hal h2 h => XT.PureE.mv r U U' V V' h1 hal h2 h) ?_
  intro p e s m args below meth c s₁ X0 hexec hbytes hml hret hlk hnm hown hh0 W hP
  obtain ⟨rfl, hV, hu, s1, rf⟩ := hP
  have v31 := hV.2.2.2
  have hi : i < V.slots.size := (Array.getElem?_eq_some_iff.mp hu).1
  have c1 : Steps p.tables e below (s₁.setTop (entryFrame m #[.ref t, .int (Int32.ofNat i)] 2)) (s₁.setTop (mkF m 0 #[.val (.ref t), .val (.int (Int32.ofNat i))] [])) := entry rfl
  have c2 : Steps p.tables e below (s₁.setTop (entryFrame m #[.ref t, .int (Int32.ofNat i)] 2)) (s₁.setTop (mkF m 3 #[.val (.ref t), .val (.int (Int32.ofNat i))] [.int (Int32.ofNat V.slots.size), .int (Int32.ofNat i)])) := c1.trans (by
    refine XS.iloadN X0.here hexec rfl (hb hbytes d0) rfl ?_
    refine XS.aloadN X0.here hexec rfl (hb hbytes d1) rfl rfl ?_
    refine X0.alen hexec (hV.mv X0.warmed.alike hh0) rfl rfl (hb hbytes d2) ?_
    exact Steps.refl _)
  obtain ⟨v3, T3, X3, E3, g3⟩ := X0.callS hexec (JO.Str_checkIndex.law l (Int32.ofNat i) (Int32.ofNat V.slots.size) fm) hown (wks W (staticW "java/lang/StringLatin1" 9 JO.Str_checkIndex.yN)) (wk W JO.Str_checkIndex.tab) (W := 0) (Nat.le_of_ble_eq_true rfl) (Nat.le_of_ble_eq_true rfl) (Nat.le_refl _) (Nat.le_refl _) (g := (mkF m 3 #[.val (.ref t), .val (.int (Int32.ofNat i))] [.int (Int32.ofNat V.slots.size), .int (Int32.ofNat i)])) rfl (by rw [hml]; rfl) c2 (argsL := [.int (Int32.ofNat i), .int (Int32.ofNat V.slots.size)]) (rest := []) rfl rfl (by show 2 * 0 + 0 ≤ _; decide) (hb hbytes d3) (⟨rfl, rf, s1.there X0.warmed.alike hh0, Int32.ofNat_not_neg (by omega), lt32 v31 hi⟩)
  obtain ⟨rfl, q3⟩ := E3
  have hh3 := q3.trans hh0
  have c4 : Steps p.tables e below (s₁.setTop (entryFrame m #[.ref t, .int (Int32.ofNat i)] 2)) (T3.setTop (mkF m 14 #[.val (.ref t), .val (.int (Int32.ofNat i))] [.int (chr8 u)])) := Steps.trans g3 (by
    refine XS.aloadN X3.here hexec rfl (hb hbytes d6) rfl rfl ?_
    refine XS.iloadN X3.here hexec rfl (hb hbytes d7) rfl ?_
    refine X3.aget hexec (hV.mv X3.warmed.alike hh3) rfl hu rfl rfl (hb hbytes d8) ?_
    refine sipushV X3.here hexec rfl 255 (hb hbytes d9) (by decide) ?_
    refine XS.iand X3.here hexec rfl (hb hbytes d12) rfl ?_
    refine i2c X3.here hexec rfl (hb hbytes d13) rfl ?_
    exact Steps.refl _)
  exact ⟨T3, some (.int (chr8 u)), _, _, _, X3, rfl, rfl, rfl, (fun h => by cases h), ⟨rfl, hh3⟩, fun fs hl => c4.trans (X3.ireturnOut hexec hret (narrow_c _) (Or.inr (Or.inr (Or.inr (Or.inl rfl)))) (hb hbytes d14) hl)⟩
end LChA
end StrChars
namespace StrChars.Road
open Jvm Sem ClassFile Op Lib Jvm.Stand Jvm.Free Jvm.Free.XT
open Jvm.Lib.Cold (StaticIs)
theorem consq {a : Array Value} {s : State} {c : Jvm.Cond} {L : List Jvm.Cond} (h0 : c.before a s = true) (h : ∀ w ∈ L, w.before a s = true) : ∀ w ∈ c :: L, w.before a s = true := fun w hw => (List.mem_cons.mp hw).elim (fun e => e ▸ h0) (h w)
/-- the words of String.length(), either coding -/
abbrev wordsLen : List Jvm.Cond := [.code Len.yN Len.yB 1 (some .int), .initialized ST, .fieldLink ST 9 ST "value" "[B", .fieldLink ST 38 ST "COMPACT_STRINGS" "Z", .fieldLink ST 15 ST "coder" "B", .code Cdr.yN Cdr.yB 1 (some .byte), .methodLink ST 335 Cdr.yN, .declares Cdr.yN, .selects ST Cdr.yN Cdr.yN, .instanceMethod Cdr.yN]
theorem tabLen_of {a : Array Value} {s : State} (h : ∀ w ∈ wordsLen, w.before a s = true) : Len.tab.before a s = true := by
  have hc : Cdr.tab.before a s = true := unparts (wk h (.code Cdr.yN Cdr.yB 1 (some .byte))) (wks h (.initialized Cdr.yN.cls :: Cdr.site))
  have q := consq hc h
  exact unparts (wk q (.code Len.yN Len.yB 1 (some .int))) (wks q (.initialized Len.yN.cls :: Len.site))
theorem movedLen {Z s : State} {a0 args : Array Value} (hZ : Z.Warmed39 s.vm) (hw : ∀ d ∈ wordsLen, d.before a0 Z = true) : ∀ d ∈ wordsLen, d.before args s = true := fun d hd => by
  have q := hw d hd
  have t : ∀ d ∈ wordsLen, d = .arrayClass .byte ∨ (d.onTables && d.keepsFace) = true := by decide +kernel
  rcases t d hd with rfl | t
  · exact RoadKit.mvA hZ q
  · exact RoadKit.mv hZ q t
/-- the bytes of the chars cs, low before high -/
def wideBytes : List Int32 → List Value
  | [] => []
  | c :: cs => .int (lo8 c) :: .int (hi8 c) :: wideBytes cs
theorem wide_lo (d : Value) : ∀ (cs : List Int32) (j : Nat), j < cs.length → (wideBytes cs).getD (2 * j) d = .int (lo8 (cs.getD j 0))
  | [], j, h => absurd h (Nat.not_lt_zero j)
  | c :: cs, 0, _ => rfl
  | c :: cs, j + 1, h => by
    have q := wide_lo d cs j (by simpa using h)
    rw [show 2 * (j + 1) = 2 * j + 1 + 1 from by omega]
    simpa [wideBytes] using q
theorem wide_hi (d : Value) : ∀ (cs : List Int32) (j : Nat), j < cs.length → (wideBytes cs).getD (2 * j + 1) d = .int (hi8 (cs.getD j 0))
  | [], j, h => absurd h (Nat.not_lt_zero j)
  | c :: cs, 0, _ => rfl
  | c :: cs, j + 1, h => by
    have q := wide_hi d cs j (by simpa using h)
    rw [show 2 * (j + 1) + 1 = 2 * j + 1 + 1 + 1 from by omega]
    simpa [wideBytes] using q
theorem low_at (d : Value) (cs : List Int32) (j : Nat) (h : j < cs.length) : (cs.map fun c => Value.int (lo8 c)).getD j d = .int (lo8 (cs.getD j 0)) := by
  simp [List.getD_eq_getElem?_getD, h]
/-- an array of N2 bytes vs codes the chars cs by the coder cd -/
def CodA (cs : List Int32) (cd N2 : Int32) (vs : List Value) : Prop := (cd = 0 ∧ N2 = Int32.ofNat cs.length ∧ vs = (cs.map fun c => Value.int (lo8 c)) ∧ ∀ c ∈ cs, ¬ 255 < c) ∨ (cd = 1 ∧ N2 = Int32.ofNat (2 * cs.length) ∧ vs = wideBytes cs ∧ ∃ c ∈ cs, 255 < c)
theorem CodA.cod {cs : List Int32} {cd N2 : Int32} {vs : List Value} {V : Cell} (h : CodA cs cd N2 vs) (hn : 2 * cs.length < 2 ^ 31) (hs : V.slots.size = N2.toNatClampNeg) (hv : RoadKit.Has V vs (.int 0)) : Cod cd cs.length (fun j => cs.getD j 0) V := by
  rcases h with ⟨rfl, rfl, rfl, h⟩ | ⟨rfl, rfl, rfl, c, hc, hw⟩
  · rw [n32 (by omega)] at hs
    exact Or.inl ⟨rfl, hs, fun j hj => ⟨by rw [hv j (by omega), low_at _ _ _ hj], by
      have e : cs.getD j 0 = cs[j] := by simp [List.getD_eq_getElem?_getD, hj]
      show ¬ 255 < cs.getD j 0
      rw [e]; exact h _ (List.getElem_mem _)⟩⟩
  · rw [n32 (by omega)] at hs
    obtain ⟨j, hj, rfl⟩ := List.getElem_of_mem hc
    exact Or.inr ⟨rfl, hs, fun j hj => ⟨by rw [hv _ (by omega), wide_lo _ _ _ hj], by rw [hv _ (by omega), wide_hi _ _ _ hj]⟩, j, hj, by
      have e : cs.getD j 0 = cs[j] := by simp [List.getD_eq_getElem?_getD, hj]
      show 255 < cs.getD j 0
      rw [e]; exact hw⟩
/-- an object of exactly java/lang/String, its two fields found: as the laws ask it -/
theorem strObj {Z U : State} {a0 : Array Value} {kI : Nat} (wi : (Jvm.Cond.instantiable ST kI).before a0 Z = true) (al : Z.vm.Alike U.vm) {x : Addr} {v0 c0 : Value} (E : RoadKit.Exa Z U.heap x ST) (V : RoadKit.Fld Z U.heap x ST "value" "[B" v0) (C : RoadKit.Fld Z U.heap x ST "coder" "B" c0) :
    ∃ (D : Cell) (fV fC : Field), Blank ST x D U ∧ Found ST "value" "[B" fV U ∧ Found ST "coder" "B" fC U ∧ D.slots[fV.slot]? = some v0 ∧ D.slots[fC.slot]? = some c0 ∧ RoadKit.slotOf Z ST "value" "[B" = fV.slot ∧ RoadKit.slotOf Z ST "coder" "B" = fC.slot := by
  obtain ⟨D, cfV, kV, iV, fV, hD, gV, stV, knV, obV, asV, slV⟩ := V
  obtain ⟨D', cfC, kC, iC, fC, hD', gC, stC, -, -, asC, slC⟩ := C
  cases hD.symm.trans hD'
  obtain ⟨D2, kD, e1, e2, e3, e4, e5⟩ := E
  cases hD.symm.trans e1
  obtain ⟨c2, k2, i1, i2, i3, -⟩ := Cond.instantiable_spec wi
  cases e2.symm.trans i1
  cases e3.symm.trans i2
  obtain ⟨kU, u1, u2⟩ := al.2.2 _ _ e3
  exact ⟨D, fV, fC, ⟨hD, ⟨knV, fun q hq => by rw [hq] at obV; cases obV⟩, by rw [al.findClass]; exact e2, kU, u1, by rw [u2]; exact i3, by rw [u2]; exact e5 i3⟩, ⟨SBG.found_only al ⟨cfV, kV, iV, gV⟩, stV⟩, ⟨SBG.found_only al ⟨cfC, kC, iC, gC⟩, stC⟩, slV, slC, by simp [RoadKit.slotOf, gV], by simp [RoadKit.slotOf, gC]⟩
theorem sta_is {Z U : State} (al : Z.vm.Alike U.vm) {C n d : String} {v : Value} (S : RoadKit.Sta Z U.heap C n d v) : StaticIs U C n d v := by
  obtain ⟨cfS, iS, kS, fS, st, cS, t1, t2, t3, t4, t5, t6, t7⟩ := S
  exact StaticIs.there (s := { Z with heap := U.heap }) ⟨cfS, iS, kS, fS, st, cS, t1, t2, t3, t4, t5, (fun q => by rw [q] at t6; cases t6), t7⟩ al rfl
/-- **length() OF SUCH A STRING** -/
theorem lenW {p : Program} {l : Launch} {e : Env} {R : Room} {s : State} {args : Array Value} {below : List Frame} {len W : Nat} {Z : State} {a0 : Array Value} {h : Heap} (hZ : Z.Warmed39 s.vm) (hw : ∀ d ∈ wordsLen, d.before a0 Z = true) {kI : Nat} (wi : (Jvm.Cond.instantiable ST kI).before a0 Z = true)
    {x t : Addr} {kb : ClassId} {cs : List Int32} {cd N2 z : Int32} {vs : List Value} (E : RoadKit.Exa Z h x ST) (V : RoadKit.Fld Z h x ST "value" "[B" (.ref t)) (C : RoadKit.Fld Z h x ST "coder" "B" (.int cd)) (K : RoadKit.Arv Z h t kb .byte N2 vs (.int 0)) (hc : CodA cs cd N2 vs) (hb : ∀ c ∈ cs, ¬ c < 0 ∧ ¬ (65535 : Int32) < c)
    (S : RoadKit.Sta Z h ST "COMPACT_STRINGS" "Z" (.int z)) (hz : ¬ z = 0) (l2 : cs.length ≤ 4000) (hfr : 2 ≤ R.frames) (hlo : W + 25 ≤ R.locals) :
    Back l R p e below s args (⟨"java/lang/String", "length", "()I"⟩ : MethodName) len W (fun P a => a = #[.ref x] ∧ P.U.heap = h ∧ P.cells + 0 ≤ R.cells ∧ P.slots + 0 ≤ R.slots)
      (fun P _ v B => ∃ L, (v = some (.int (Int32.ofNat cs.length)) ∧ L = [] ∧ B.U.heap = h) ∧ B.locs = P.locs ++ L ∧ B.cells = P.cells + 0 ∧ B.slots = P.slots + 0) := by
  obtain ⟨A, K1, K2, K3, K4, K5, K6⟩ := K
  have hcod := hc.cod (by omega) K3 K5
  intro m meth c P g ig mk a X hg hsize hdg hW hn hp'
  obtain ⟨rfl, rfl, r1, r2⟩ := hp'
  have al : Z.vm.Alike P.U.vm := hZ.alike.trans X.warmed.alike
  obtain ⟨D, fV, fC, hB, F1, F2, g1, g2, -, -⟩ := strObj wi al E V C
  have hx : Txt x t A cd cs.length (fun j => cs.getD j 0) P.U := ⟨⟨_, hB.2.2.1, D, hB.1, rfl, by cases q : D.vm <;> first | rfl | exact absurd q (hB.2.1.2 _)⟩, Has.of hB F1 g1, Has.of hB F2 g2, ⟨K1.1, State.isArrayOf_alike al K1.2.1, K1.2.2, by rcases hcod with ⟨-, q, -⟩ | ⟨-, q, -⟩ <;> omega⟩, hcod, fun j hj => by
    have e : cs.getD j 0 = cs[j] := by simp [List.getD_eq_getElem?_getD, hj]
    show ¬ cs.getD j 0 < 0 ∧ ¬ 65535 < cs.getD j 0
    rw [e]; exact hb _ (List.getElem_mem _)⟩
  obtain ⟨v, B, X', ⟨⟨hv, hh⟩, hl, hk, hs⟩, st⟩ := Len.pays x t A cd cs.length (fun j => cs.getD j 0) z (tabLen_of (movedLen hZ hw)) hfr hlo m meth c P g ig mk _ X hg hsize hdg hW hn ⟨r1, r2, rfl, hx, sta_is al S, hz⟩
  exact ⟨v, B, X', ⟨[], ⟨hv, rfl, hh⟩, hl, hk, hs⟩, st⟩
end StrChars.Road
namespace StrChars.Road
open Jvm Sem ClassFile Op Lib Jvm.Stand Jvm.Free Jvm.Free.XT
open Jvm.Lib.Cold (StaticIs)
/-- the road's facts of a String, as the laws ask it -/
theorem txt_of {Z U : State} {a0 : Array Value} {kI : Nat} (wi : (Jvm.Cond.instantiable ST kI).before a0 Z = true) (al : Z.vm.Alike U.vm) {x t : Addr} {kb : ClassId} {cs : List Int32} {cd N2 : Int32} {vs : List Value} (E : RoadKit.Exa Z U.heap x ST) (V : RoadKit.Fld Z U.heap x ST "value" "[B" (.ref t)) (C : RoadKit.Fld Z U.heap x ST "coder" "B" (.int cd)) (K : RoadKit.Arv Z U.heap t kb .byte N2 vs (.int 0)) (hc : CodA cs cd N2 vs) (hb : ∀ c ∈ cs, ¬ c < 0 ∧ ¬ (65535 : Int32) < c) (l2 : cs.length ≤ 4000) :
    ∃ A, Txt x t A cd cs.length (fun j => cs.getD j 0) U := by
  obtain ⟨A, K1, K2, K3, K4, K5, K6⟩ := K
  have hcod := hc.cod (by omega) K3 K5
  obtain ⟨D, fV, fC, hB, F1, F2, g1, g2, -, -⟩ := strObj wi al E V C
  exact ⟨A, ⟨_, hB.2.2.1, D, hB.1, rfl, by cases q : D.vm <;> first | rfl | exact absurd q (hB.2.1.2 _)⟩, Has.of hB F1 g1, Has.of hB F2 g2, ⟨K1.1, State.isArrayOf_alike al K1.2.1, K1.2.2, by rcases hcod with ⟨-, q, -⟩ | ⟨-, q, -⟩ <;> omega⟩, hcod, fun j hj => by
    have e : cs.getD j 0 = cs[j] := by simp [List.getD_eq_getElem?_getD, hj]
    show ¬ cs.getD j 0 < 0 ∧ ¬ 65535 < cs.getD j 0
    rw [e]; exact hb _ (List.getElem_mem _)⟩
end StrChars.Road
namespace StrChars
open Jvm Sem ClassFile Op Lib Jvm.Stand Jvm.Free.XT Jvm.Free.ALB Jvm.Free.JM Jvm.Free
open Jvm.Lib.Cold (StaticIs)
namespace ChN
def yN : MethodName := ⟨"java/lang/String", "charAt", "(I)C"⟩
abbrev yB : ByteArray := jdk_42_method_56_code
theorem d0 : decode yB 0 = .ok (.aload_n 0, 1) := by decide +kernel
theorem d1 : decode yB 1 = .ok (.invokevirtual 492, 3) := by decide +kernel
theorem d4 : decode yB 4 = .ok (.ifCond (.eq) 12, 3) := by decide +kernel
theorem d7 : decode yB 7 = .ok (.aload_n 0, 1) := by decide +kernel
theorem d8 : decode yB 8 = .ok (.getfield 9, 3) := by decide +kernel
theorem d11 : decode yB 11 = .ok (.iload_n 1, 1) := by decide +kernel
theorem d12 : decode yB 12 = .ok (.invokestatic 495, 3) := by decide +kernel
theorem d15 : decode yB 15 = .ok (.ireturn, 1) := by decide +kernel
def site : List Cond := [.fieldLink "java/lang/String" 9 "java/lang/String" "value" "[B", IsL.tab, LChA.tab] ++ virtW "java/lang/String" 492 "java/lang/String" IsL.yN IsL.yN ++ staticW "java/lang/String" 495 LChA.yN
def tab : Cond := tabOf yN yB 2 (some .char) site
def P (x t : Addr) (V : Cell) (n : Nat) (f : Nat → Int32) (z : Int32) (fm : Value) (i : Nat) (args : Array Value) (s : State) : Prop := args = #[.ref x, .int (Int32.ofNat i)] ∧ Txt x t V 0 n f s ∧ i < n ∧ StaticIs s "java/lang/String" "COMPACT_STRINGS" "Z" (.int z) ∧ ¬ z = 0 ∧ StaticIs s "jdk/internal/util/Preconditions" "SIOOBE_FORMATTER" "Ljava/util/function/BiFunction;" fm ∧ fm.isRef = true
def E (f : Nat → Int32) (i : Nat) (r : Option Value) (s u : State) : Prop := XT.PureE (some (.int (f i))) r s u
/-- charAt(i) of a Latin-1 String of n chars, i < n: f i -/
theorem law (l : Launch) (x t : Addr) (V : Cell) (n : Nat) (f : Nat → Int32) (z : Int32) (fm : Value) (i : Nat) : Law l yN 2 1 3 40 yB 2 (some .char) site (P x t V n f z fm i) (E f i) [] 0 0 := by
  refine Law.of_walk (plainFor_of_name (by decide +kernel)) (by decide +kernel) (by decide +kernel) (by decide) (fun _ _ h => by rw [h.1]; rfl) (fun _ U U' hal hh h => ⟨h.1, h.2.1.mv hal hh, h.2.2.1, h.2.2.2.1.there hal hh, h.2.2.2.2.1, h.2.2.2.2.2.1.there hal hh, h.2.2.2.2.2.2⟩) (fun r U U' V V' h1 hal h2 h => XT.PureE.mv r U U' V V' h1 hal h2 h) ?_
  intro p e s m args below meth c s₁ X0 hexec hbytes hml hret hlk hnm hown hh0 W hP
  obtain ⟨rfl, hx, hi, s1, hz, s3, rf⟩ := hP
  have v31 := hx.2.2.2.1.2.2.2
  have hr := hx.2.2.2.2.2 i hi
  have hx0 := hx.mv X0.warmed.alike hh0
  have c1 : Steps p.tables e below (s₁.setTop (entryFrame m #[.ref x, .int (Int32.ofNat i)] 2)) (s₁.setTop (mkF m 1 #[.val (.ref x), .val (.int (Int32.ofNat i))] [.ref x])) := Steps.trans (entry rfl) (by
    show Steps p.tables e below (s₁.setTop (mkF m 0 #[.val (.ref x), .val (.int (Int32.ofNat i))] [])) _
    refine XS.aloadN X0.here hexec rfl (hb hbytes d0) rfl rfl ?_
    exact Steps.refl _)
  obtain ⟨v2, T2, X2, E2, g2⟩ := X0.callV hexec (IsL.law l x 0 z) hown (wks W (virtW "java/lang/String" 492 "java/lang/String" IsL.yN IsL.yN)) rfl (by decide) (wk W IsL.tab) (W := 0) (Nat.le_of_ble_eq_true rfl) (Nat.le_of_ble_eq_true rfl) (Nat.le_refl _) (Nat.le_refl _) (hx0.1.fc X0.warmed.alike) hx0.1.is (g := (mkF m 1 #[.val (.ref x), .val (.int (Int32.ofNat i))] [.ref x])) rfl (by rw [hml]; rfl) c1 (argsL := []) (rest := []) rfl rfl (by show 2 * 0 + 0 ≤ _; decide) (hb hbytes d1) (⟨rfl, hx0.2.2.1, hx.2.2.2.2.1.cd, s1.there X0.warmed.alike hh0, hz⟩)
  obtain ⟨rfl, q2⟩ := E2
  have hh2 := q2.trans hh0
  have hx2 := hx.mv X2.warmed.alike hh2
  obtain ⟨-, k1, k2⟩ | ⟨k0, -⟩ := hx.2.2.2.2.1
  · have c3 : Steps p.tables e below (s₁.setTop (entryFrame m #[.ref x, .int (Int32.ofNat i)] 2)) (T2.setTop (mkF m 8 #[.val (.ref x), .val (.int (Int32.ofNat i))] [.ref x])) := Steps.trans g2 (by
      refine XS.ifNo X2.here hexec rfl (hb hbytes d4) rfl (i0_eq_f (by decide)) ?_
      refine XS.aloadN X2.here hexec rfl (hb hbytes d7) rfl rfl ?_
      exact Steps.refl _)
    obtain ⟨T4, X4, q4, st4⟩ := X2.hget hexec hown (wk W (.fieldLink "java/lang/String" 9 "java/lang/String" "value" "[B")) hx2.2.1 (g := (mkF m 8 #[.val (.ref x), .val (.int (Int32.ofNat i))] [.ref x])) rfl (rest := []) rfl (hb hbytes d8)
    have hh4 := q4.trans hh2
    have c5 : Steps p.tables e below (s₁.setTop (entryFrame m #[.ref x, .int (Int32.ofNat i)] 2)) (T4.setTop (mkF m 12 #[.val (.ref x), .val (.int (Int32.ofNat i))] [.int (Int32.ofNat i), .ref t])) := (c3.trans (st4 _ (Steps.refl _))).trans (by
      refine XS.iloadN X4.here hexec rfl (hb hbytes d11) rfl ?_
      exact Steps.refl _)
    obtain ⟨v6, T6, X6, E6, g6⟩ := X4.callS hexec (LChA.law l t V i (lo8 (f i)) fm) hown (wks W (staticW "java/lang/String" 495 LChA.yN)) (wk W LChA.tab) (W := 0) (Nat.le_of_ble_eq_true rfl) (Nat.le_of_ble_eq_true rfl) (Nat.le_refl _) (Nat.le_refl _) (g := (mkF m 12 #[.val (.ref x), .val (.int (Int32.ofNat i))] [.int (Int32.ofNat i), .ref t])) rfl (by rw [hml]; rfl) c5 (argsL := [.ref t, .int (Int32.ofNat i)]) (rest := []) rfl rfl (by show 2 * 0 + 0 ≤ _; decide) (hb hbytes d12) (⟨rfl, hx.2.2.2.1.mv X4.warmed.alike hh4, (k2 i hi).1, s3.there X4.warmed.alike hh4, rf⟩)
    obtain ⟨rfl, q6⟩ := E6
    rw [chr8_lo8 hr.1 (k2 i hi).2] at g6
    exact ⟨T6, some (.int (f i)), _, _, _, X6, rfl, rfl, rfl, (fun h => by cases h), ⟨rfl, q6.trans hh4⟩, fun fs hl => Steps.trans g6 (X6.ireturnOut hexec hret (narrow_ch hr.1 hr.2) (Or.inr (Or.inr (Or.inr (Or.inl rfl)))) (hb hbytes d15) hl)⟩
  · exact absurd k0 (by decide)
theorem pays {l : Launch} {R : Room} {p : Program} {e : Env} {below : List Frame} {s : State} {sargs : Array Value} {len W : Nat} (x t : Addr) (V : Cell) (n : Nat) (f : Nat → Int32) (z : Int32) (fm : Value) (i : Nat) (htab : tab.before sargs s = true) (hfr : 4 ≤ R.frames) (hlo : W + 53 ≤ R.locals) :
    Back l R p e below s sargs yN len W (fun A₁ a₁ => A₁.cells + 0 ≤ R.cells ∧ A₁.slots + 0 ≤ R.slots ∧ P x t V n f z fm i a₁ A₁.U) (fun A₁ _ v₁ B₁ => E f i v₁ A₁.U B₁.U ∧ B₁.locs = A₁.locs ++ [] ∧ B₁.cells = A₁.cells + 0 ∧ B₁.slots = A₁.slots + 0) :=
  (law l x t V n f z fm i).pays htab hfr (by omega)
end ChN
end StrChars
namespace StrChars.Road
open Jvm Sem ClassFile Op Lib Jvm.Stand Jvm.Free Jvm.Free.XT
open Jvm.Lib.Cold (StaticIs)
/-- the words of String.charAt(int), the Latin-1 road alone -/
abbrev wordsChN : List Jvm.Cond := [.code ChN.yN ChN.yB 2 (some .char), .initialized ST, .fieldLink ST 9 ST "value" "[B", .fieldLink ST 38 ST "COMPACT_STRINGS" "Z", .fieldLink ST 15 ST "coder" "B", .code IsL.yN IsL.yB 1 (some .boolean), .methodLink ST 492 IsL.yN, .declares IsL.yN, .selects ST IsL.yN IsL.yN, .instanceMethod IsL.yN,
  .methodLink ST 495 LChA.yN, .static LChA.yN, .code LChA.yN LChA.yB 2 (some .char), .initialized "java/lang/StringLatin1", .methodLink "java/lang/StringLatin1" 9 JO.Str_checkIndex.yN, .static JO.Str_checkIndex.yN, .code JO.Str_checkIndex.yN JO.Str_checkIndex.yB 2 none,
  .fieldLink ST 1053 "jdk/internal/util/Preconditions" "SIOOBE_FORMATTER" "Ljava/util/function/BiFunction;", .methodLink ST 1059 JC.PreCheck.yN, .static JC.PreCheck.yN, .code JC.PreCheck.yN JC.PreCheck.yB 3 (some .int), .initialized "jdk/internal/util/Preconditions"]
theorem tabChN_of {a : Array Value} {s : State} (h : ∀ w ∈ wordsChN, w.before a s = true) : ChN.tab.before a s = true := by
  have hp : JC.PreCheck.tab.before a s = true := unparts (wk h (.code JC.PreCheck.yN JC.PreCheck.yB 3 (some .int))) (wks h (.initialized JC.PreCheck.yN.cls :: JC.PreCheck.site))
  have qk := consq hp h
  have hk : JO.Str_checkIndex.tab.before a s = true := unparts (wk qk (.code JO.Str_checkIndex.yN JO.Str_checkIndex.yB 2 none)) (wks qk (.initialized JO.Str_checkIndex.yN.cls :: JO.Str_checkIndex.site))
  have ql := consq hk h
  have hl : LChA.tab.before a s = true := unparts (wk ql (.code LChA.yN LChA.yB 2 (some .char))) (wks ql (.initialized LChA.yN.cls :: LChA.site))
  have hi : IsL.tab.before a s = true := unparts (wk h (.code IsL.yN IsL.yB 1 (some .boolean))) (wks h (.initialized IsL.yN.cls :: IsL.site))
  have q := consq hi (consq hl h)
  exact unparts (wk q (.code ChN.yN ChN.yB 2 (some .char))) (wks q (.initialized ChN.yN.cls :: ChN.site))
theorem movedChN {Z s : State} {a0 args : Array Value} (hZ : Z.Warmed39 s.vm) (hw : ∀ d ∈ wordsChN, d.before a0 Z = true) : ∀ d ∈ wordsChN, d.before args s = true := fun d hd => by
  have t : ∀ d ∈ wordsChN, (d.onTables && d.keepsFace) = true := by decide +kernel
  exact RoadKit.mv hZ (hw d hd) (t d hd)
/-- **charAt(i) OF A LATIN-1 STRING**, i < n: the char -/
theorem chN {p : Program} {l : Launch} {e : Env} {R : Room} {s : State} {args : Array Value} {below : List Frame} {len W : Nat} {Z : State} {a0 : Array Value} {h : Heap} (hZ : Z.Warmed39 s.vm) (hw : ∀ d ∈ wordsChN, d.before a0 Z = true) {kI : Nat} (wi : (Jvm.Cond.instantiable ST kI).before a0 Z = true)
    {x t : Addr} {kb : ClassId} {cs : List Int32} {N2 z : Int32} {vs : List Value} {fm : Value} {i : Nat} {j : Int32} (E : RoadKit.Exa Z h x ST) (V : RoadKit.Fld Z h x ST "value" "[B" (.ref t)) (C : RoadKit.Fld Z h x ST "coder" "B" (.int 0)) (K : RoadKit.Arv Z h t kb .byte N2 vs (.int 0)) (hc : CodA cs 0 N2 vs) (hb : ∀ c ∈ cs, ¬ c < 0 ∧ ¬ (65535 : Int32) < c)
    (S : RoadKit.Sta Z h ST "COMPACT_STRINGS" "Z" (.int z)) (hz : ¬ z = 0) (F : RoadKit.Sta Z h "jdk/internal/util/Preconditions" "SIOOBE_FORMATTER" "Ljava/util/function/BiFunction;" fm) (rf : fm.isRef = true) (l2 : cs.length ≤ 4000) (hi : i < cs.length) (hj : j = Int32.ofNat i) (hfr : 4 ≤ R.frames) (hlo : W + 53 ≤ R.locals) :
    Back l R p e below s args (⟨"java/lang/String", "charAt", "(I)C"⟩ : MethodName) len W (fun P a => a = #[.ref x, .int j] ∧ P.U.heap = h ∧ P.cells + 0 ≤ R.cells ∧ P.slots + 0 ≤ R.slots)
      (fun P _ v B => ∃ L, (v = some (.int (cs.getD i 0)) ∧ L = [] ∧ B.U.heap = h) ∧ B.locs = P.locs ++ L ∧ B.cells = P.cells + 0 ∧ B.slots = P.slots + 0) := by
  subst hj
  intro m meth c P g ig mk a X hg hsize hdg hW hn hp'
  obtain ⟨rfl, rfl, r1, r2⟩ := hp'
  have al : Z.vm.Alike P.U.vm := hZ.alike.trans X.warmed.alike
  obtain ⟨A, hx⟩ := txt_of wi al E V C K hc hb l2
  obtain ⟨v, B, X', ⟨⟨hv, hh⟩, hl, hk, hs⟩, st⟩ := ChN.pays x t A cs.length (fun j => cs.getD j 0) z fm i (tabChN_of (movedChN hZ hw)) hfr hlo m meth c P g ig mk _ X hg hsize hdg hW hn ⟨r1, r2, rfl, hx, hi, sta_is al S, hz, sta_is al F, rf⟩
  exact ⟨v, B, X', ⟨[], ⟨hv, rfl, hh⟩, hl, hk, hs⟩, st⟩
/-- what backV says of its String, as the contracts of this text ask it: cs's low bytes, coder 0 -/
theorem codOf {cs : List Int32} {n : Nat} (hn : cs.length = n) (hb : ∀ c ∈ cs, ¬ 255 < c) : CodA cs 0 (Int32.ofNat n) ((cs.map lo8).map Value.int) := Or.inl ⟨rfl, by rw [hn], by simp [List.map_map, Function.comp_def], hb⟩
end StrChars.Road
end Jvm.Pilot.@@N@@

namespace Jvm.Pilot.@@N@@
open Jvm Jvm.ClassFile Sem Op Lib Jvm.Free Jvm.Stand Jvm.LawKit Jvm.RoadKit Bundle Jvm.Pilot.@@N@@.Jvm.D
theorem own_eqL {x y : Int64} (h : x = y) : lcmpW x y = 0 := by rw [lcW]; exact (lc_eq x y).2 h
theorem own_neL {x y : Int64} (h : ¬ x = y) : ¬ lcmpW x y = 0 := by rw [lcW]; exact fun q => h ((lc_eq x y).1 q)
theorem own_ltL {x y : Int64} (h : x < y) : lcmpW x y < 0 := by rw [lcW]; exact (lc_lt x y).2 h
theorem own_nltL {x y : Int64} (h : ¬ x < y) : ¬ lcmpW x y < 0 := by rw [lcW]; exact fun q => h ((lc_lt x y).1 q)
theorem own_gtL {x y : Int64} (h : y < x) : 0 < lcmpW x y := by rw [lcW]; exact (lc_gt x y).2 h
theorem own_ns_exa {Z : State} {h : Heap} {a : Addr} {C : String} (E : Exa Z h a C) : ∀ cell : Cell, h[a]? = some cell → cell.vm.isStatics = false := by
  obtain ⟨c, k, h1, -, -, h4, -⟩ := E
  intro cell hc; cases h1.symm.trans hc; exact h4
theorem own_ns1 {h : Heap} {a : Addr} (p : ∀ cell : Cell, h[a]? = some cell → cell.vm.isStatics = false) : ∀ x ∈ [a], ∀ cell : Cell, h[x]? = some cell → cell.vm.isStatics = false := by
  intro x hx; cases List.mem_singleton.mp hx; exact p
theorem own_ns2 {h : Heap} {a b : Addr} (p : ∀ cell : Cell, h[a]? = some cell → cell.vm.isStatics = false) (q : ∀ cell : Cell, h[b]? = some cell → cell.vm.isStatics = false) : ∀ x ∈ [a, b], ∀ cell : Cell, h[x]? = some cell → cell.vm.isStatics = false := by
  intro x hx; simp only [List.mem_cons, List.not_mem_nil, or_false] at hx; rcases hx with rfl | rfl <;> first | exact p | exact q
theorem own_sta_keep {Z : State} {h h' : Heap} {ws : List Addr} {C n d : String} {v : Value} (F : Sta Z h C n d v) (K : Keep h h' ws) (hn : ∀ x ∈ ws, ∀ cell : Cell, h[x]? = some cell → cell.vm.isStatics = false) : Sta Z h' C n d v := by
  obtain ⟨cf, i, k, f, st, cell, h1, h2, h3, h4, h5, h6, r⟩ := F
  exact ⟨cf, i, k, f, st, cell, h1, h2, h3, h4, K.2.1 _ _ h5 (fun q => by rw [hn _ q _ h5] at h6; cases h6), h6, r⟩
theorem own_sta_keep0 {Z : State} {h h' : Heap} {C n d : String} {v : Value} (F : Sta Z h C n d v) (K : Keep h h' []) : Sta Z h' C n d v := by
  obtain ⟨cf, i, k, f, st, cell, h1, h2, h3, h4, h5, r⟩ := F
  exact ⟨cf, i, k, f, st, cell, h1, h2, h3, h4, K.2.1 _ _ h5 List.not_mem_nil, r⟩
theorem own_ngtL {x y : Int64} (h : ¬ y < x) : ¬ 0 < lcmpW x y := by rw [lcW]; exact fun q => h ((lc_gt x y).1 q)
abbrev own_GU : String := "com/example/strict_url/stricturl/url/GopherUrl"
abbrev vI (x : Int32) : Slot := .val (.int x)
abbrev own_E (m : MethodId) (p0 p1 p2 p3 p4 : Int32) : JFrame := entryFrame m #[(.int p0), (.int p1), (.int p2), (.int p3), (.int p4)] maxLocals
abbrev vJ (x : Int64) : Slot := .val (.long x)
abbrev vR (x : Addr) : Slot := .val (.ref x)
abbrev own_P (p : Program) (e : Env) (below : List Frame) (T : State) (F : JFrame) (T0 : State) (F0 : JFrame) : Prop := ∀ t, Steps p.tables e below (T.setTop F) t → Steps p.tables e below (T0.setTop F0) t
theorem own_w {Z : State} {ar0 : Array Value} (hw : ∀ d ∈ tables_1, d.before ar0 Z = true) (i : Nat) {d : Jvm.Cond} (h : tables_1[i]? = some d) : d.before ar0 Z = true := hw _ (List.mem_of_getElem? h)
theorem own_wordsLen {Z : State} {ar0 : Array Value} (hw : ∀ d ∈ tables_1, d.before ar0 Z = true) : ∀ d ∈ StrChars.Road.wordsLen, d.before ar0 Z = true := fun d hd => hw d ((by decide +kernel : ∀ d ∈ StrChars.Road.wordsLen, d ∈ tables_1) d hd)
theorem own_wordsChN {Z : State} {ar0 : Array Value} (hw : ∀ d ∈ tables_1, d.before ar0 Z = true) : ∀ d ∈ StrChars.Road.wordsChN, d.before ar0 Z = true := fun d hd => hw d ((by decide +kernel : ∀ d ∈ StrChars.Road.wordsChN, d ∈ tables_1) d hd)
theorem own_words {Z : State} {ar0 : Array Value} (hw : ∀ d ∈ tables_1, d.before ar0 Z = true) : ∀ d ∈ StrChars.Road.words, d.before ar0 Z = true := fun d hd => hw d ((by decide +kernel : ∀ d ∈ StrChars.Road.words, d ∈ tables_1) d hd)
theorem own_up (cs : List Int32) (h : ∀ c ∈ cs, ¬ c < 0 ∧ ¬ (255 : Int32) < c) : ∀ c ∈ cs, ¬ c < 0 ∧ ¬ (65535 : Int32) < c := fun c hc => ⟨(h c hc).1, fun q => (h c hc).2 (by rw [Int32.lt_iff_toInt_lt] at q ⊢; have e1 : (65535 : Int32).toInt = 65535 := rfl; have e2 : (255 : Int32).toInt = 255 := rfl; omega)⟩
theorem own_eqI {a : Term} {k : Int32} {args : Array Value} {first s : State} {o : Option Outcome} {idx : List Nat} (h : (Cond.eq a (.int k)).value args first o s idx = some true) : a.eval args first o idx s = some (.int k) := by
 simp only [Cond.value, Term.eval] at h
 cases ha : a.eval args first o idx s with
 | none => simp [ha] at h
 | some x => cases x <;> simp [ha] at h ⊢; exact h
theorem own_eqJ {a : Term} {k : Int64} {args : Array Value} {first s : State} {o : Option Outcome} {idx : List Nat} (h : (Cond.eq a (.long k)).value args first o s idx = some true) : a.eval args first o idx s = some (.long k) := by
 simp only [Cond.value, Term.eval] at h
 cases ha : a.eval args first o idx s with
 | none => simp [ha] at h
 | some x => cases x <;> simp [ha] at h ⊢; exact h
theorem own_len {args : Array Value} {s : State} {t : Term} {a : Addr} {cl : Cell} {n : Int32} (ht : t.eval args s none [] s = some (.ref a)) (hc : s.arrayAt? a = some cl) (h : (Term.length t).eval args s none [] s = some (.int n)) : cl.slots.size < 2 ^ 31 ∧ cl.slots.size.toInt32 = n := by
 simp only [Term.eval, ht, hc, Option.bind_eq_bind, Option.bind_some] at h
 split at h
 ·
  rename_i q; exact ⟨q, by simpa using h⟩
 ·
  cases h
theorem own_sizeN {n : Nat} {k : Int32} (h : n < 2 ^ 31) (e : n.toInt32 = k) : n = k.toNatClampNeg := by
 have q : (n : Int) = k.toInt := by rw [← e]; exact (Int32.toInt_ofNat_of_lt h).symm
 show n = k.toInt.toNat
 omega
theorem own_exa_at {args : Array Value} {s : State} {idx : List Nat} {t : Term} {C : String} {b : Addr} (h : (Cond.exactly t C).value args s none s idx = some true) (e : t.eval args s none idx s = some (.ref b)) : Exa s s.heap b C := by
 obtain ⟨a', c', cell, k, e1, e2, e3, e4, e5, e6, e7⟩ := Cond.exactly_spec (show (Cond.exactly t C).holds args s none s idx = true from beq_iff_eq.mpr h)
 cases e.symm.trans e1
 exact ⟨cell, k, e3, by rw [e6]; exact e2, by rw [e6]; exact e4, e5, e7⟩
theorem own_index {args : Array Value} {s : State} {j : Int32} (h : ¬ j < 0) : (Term.index 0).eval args s none [j.toNatClampNeg] s = some (.int j) := by
 have q := back32 h
 simp [Term.eval, q.1, q.2]
theorem own_elR {args : Array Value} {s : State} {T t2 : Term} {a b : Addr} {cl : Cell} {ty : FieldType} {j : Int32} (A : Arr s s.heap a cl ty) (ha : T.eval args s none [] s = some (.ref a)) (hb : t2.eval args s none [] s = some (.ref b)) (h : (Cond.eq (.elem T (.int j)) t2).value args s none s [] = some true) : cl.slots[j.toNatClampNeg]? = some (.ref b) := by
 obtain ⟨x, y, e1, e2, k1, -⟩ := cmp_v (Or.inl h)
 cases hb.symm.trans e2
 obtain ⟨c', c1, -, c3⟩ := elem_at e1 ha rfl
 cases A.1.symm.trans c1
 rw [c3]
 have hx : x.isRef = true := by cases x <;> simp [Kin, Value.isRef] at k1 ⊢
 have q := gotT (eq_R e1 hb hx rfl) h
 rw [q]

theorem own_since0 (s : State) : s.Since s.vm 0 := ⟨State.Warmed39.refl s, fun j p hj hp => absurd (Array.getElem?_eq_some_iff.mp hp).1 (Nat.not_lt.mpr hj)⟩
theorem own_strW {Z : State} {ar0 : Array Value} (hw : ∀ d ∈ tables_1, d.before ar0 Z = true) : ∀ d ∈ Bundle.stringAtoms, d.before ar0 Z = true := fun d hd => hw d ((by decide +kernel : ∀ d ∈ Bundle.stringAtoms, d ∈ tables_1) d hd)
abbrev own_EL : List (String × Nat) := [(own_GU, 47)]
theorem own_EW {Z : State} {ar0 : Array Value} (hw : ∀ d ∈ tables_1, d.before ar0 Z = true) : EW Z ar0 own_EL := EW.cons (text := "1") (own_w hw 78 rfl) (by decide) EW.nil
theorem own_safe0 {Z : State} {EL : List (String × Nat)} {vm : Vm} {h : Heap} {a : Addr} (hal : Z.vm.Alike vm) (E : Exa Z h a "java/lang/String") (F : Fld Z h a "java/lang/String" "value" "[B" .null) : Safe Z EL vm h a := fun B => by
 obtain ⟨p, -, u, a', -, q, -, S, hy⟩ := B
 rcases hy with rfl | rfl
 ·
  obtain ⟨cell, cf, k, i, f, h1, h2, h3, h4, h5, h6, h7⟩ := F
  cases (show h[q.sa]? = some q.sC from S.ha).symm.trans h1
  obtain ⟨cS, ⟨⟨s1, s2, s3, ⟨cv, kv, iv, s4, s4'⟩, -, s6, -, s8, -⟩, -⟩, -⟩ := S
  obtain ⟨kv', z4⟩ := ff_back (U := Wst Z vm h) hal s4
  have e := z4.symm.trans h2
  simp only [Option.some.injEq, Prod.mk.injEq] at e
  rw [← e.2.2.2] at h7
  cases s8.symm.trans h7
 ·
  obtain ⟨cell, k, e1, e2, e3, -, -⟩ := E
  cases (show h[q.sd]? = some q.SA from S.hd).symm.trans e1
  obtain ⟨cS, -, -, f, -⟩ := S
  have f' : vm.findClass "[B" = some q.SA.cls := f
  rw [hal.findClass] at f'
  obtain ⟨k1, q1, q2⟩ := Vm.findClass_spec f'
  obtain ⟨k2, q3, q4⟩ := Vm.findClass_spec e2
  cases q1.symm.trans q3
  exact absurd (q2.symm.trans q4) (by decide)
abbrev own_R (c : Int32) : Prop := ¬ c < 0 ∧ ¬ (255 : Int32) < c
theorem own_hcdG {cs : List Int32} (h : ∀ x ∈ cs, ¬ x < 0 ∧ ¬ (255 : Int32) < x) : StrChars.Road.CodA cs 0 (Int32.ofNat cs.length) ((cs.map (fun c => c.toInt8.toInt32)).map Value.int) := StrChars.Road.codOf rfl (fun x hx => (h x hx).2)
def own_eq (x y : List Int32) : Int32 := if x = y then 1 else 0
theorem own_eqv {x y : List Int32} {v : Option Value} (h : (v = some (.int 1) ∧ x = y) ∨ (v = some (.int 0) ∧ ¬ x = y)) : v = some (.int (own_eq x y)) := by
 unfold own_eq
 rcases h with ⟨h, q⟩ | ⟨h, q⟩
 ·
  rw [if_pos q]; exact h
 ·
  rw [if_neg q]; exact h
theorem own_small (n : Nat) (hn : n < 2 ^ 31) (x : Int32) (h0 : 0 ≤ x.toInt) (h1 : x.toInt < n) : ∃ k : Fin n, x = Int32.ofNat k := by
 refine ⟨⟨x.toInt.toNat, by omega⟩, ?_⟩
 apply Int32.toInt_inj.mp
 rw [Int32.toInt_ofNat_of_lt (by show x.toInt.toNat < 2 ^ 31; omega)]
 show x.toInt = (x.toInt.toNat : Int)
 omega
theorem own_R256 {c : Int32} (h : own_R c) : ∃ k : Fin 256, c = Int32.ofNat k := by
 obtain ⟨h1, h2⟩ := h
 rw [Int32.lt_iff_toInt_lt] at h1 h2
 have e0 : (0 : Int32).toInt = 0 := by decide
 have e1 : (255 : Int32).toInt = 255 := by decide
 exact own_small 256 (by decide) c (by omega) (by omega)
theorem own_nar {c : Int32} (h : own_R c) : nar .char c = c := by
 obtain ⟨k, e⟩ := own_R256 h
 have d : ∀ k : Fin 256, nar .char (Int32.ofNat k) = Int32.ofNat k := by decide +kernel
 rw [e]; exact d k
theorem own_i8 (c : Int32) : (c.toInt8.toInt32).toInt8.toInt32 = c.toInt8.toInt32 := by simp
theorem own_neI {t : Term} {k : Int32} {args : Array Value} {s : State} {x : Int32} (ht : t.eval args s none [] s = some (.int x)) (h : (Cond.not (.eq t (.int k))).value args s none s [] = some true) : ¬ (x = k) := by
 have q := not_v h
 intro e
 simp [Cond.value, ht, Term.eval, e] at q

theorem own_all1 {a : Int32} (ha : own_R a) : ∀ x ∈ ([a] : List Int32), ¬ x < 0 ∧ ¬ (255 : Int32) < x := fun x hx => by cases List.mem_singleton.mp hx; exact ha
theorem own_rg1 {v z : Int32} (h : v = ((z &&& (255 : Int32)).toUInt32.toUInt16.toUInt32.toInt32)) : own_R v := by
 have e1 : (z &&& 255).toInt = z.toInt % 2 ^ 8 := Jvm.Kit.i32_mask z 255 (k := 8) (by decide) (by decide)
 obtain ⟨k, e⟩ := own_small 256 (by decide) (z &&& 255) (by omega) (by omega)
 have d : ∀ k : Fin 256, own_R ((Int32.ofNat k).toUInt32.toUInt16.toUInt32.toInt32) := by decide +kernel
 rw [h, e]; exact d k
theorem own_hp3 {a b c : Int32} (ha : own_R a) (hb : own_R b) (hc : own_R c) : ∀ x ∈ ([(nar .char a), (nar .char b), (nar .char c)] : List Int32), ¬ x < 0 ∧ ¬ (255 : Int32) < x := by
 intro x hx
 rw [own_nar ha, own_nar hb, own_nar hc] at hx
 simp only [List.mem_cons, List.not_mem_nil, or_false] at hx
 rcases hx with rfl | rfl | rfl
 ·
  exact ha
 ·
  exact hb
 ·
  exact hc
theorem own_eqS (x : List Int32) : own_eq x x = (1 : Int32) := if_pos rfl

theorem pn_0 : plainName "java/lang/StringLatin1" = true := by first | (simp [plainName, overriddenIn]; done) | decide +kernel
theorem d2_0 : decode jdk_43_method_3_code 0 = .ok (.iload_n 0, 1) := by decide +kernel
theorem d2_1 : decode jdk_43_method_3_code 1 = .ok (.sipush 255, 3) := by decide +kernel
theorem d2_4 : decode jdk_43_method_3_code 4 = .ok (.if_icmp .gt 7, 3) := by decide +kernel
theorem d2_7 : decode jdk_43_method_3_code 7 = .ok (.iconst 1, 1) := by decide +kernel
theorem d2_8 : decode jdk_43_method_3_code 8 = .ok (.goto 4, 3) := by decide +kernel
theorem d2_11 : decode jdk_43_method_3_code 11 = .ok (.iconst 0, 1) := by decide +kernel
theorem d2_12 : decode jdk_43_method_3_code 12 = .ok (.ireturn, 1) := by decide +kernel
theorem ef_2 (m : MethodId) (x0 : Int32) : entryFrame m #[(.int x0)] 1 = mkF m 0 #[vI x0] [] := by first | (simp [entryFrame, mkF, argsToLocals, Value.category]; done) | rfl
def f2 (p0 : Int32) : Int32 := (if (255 : Int32) < p0 then (0 : Int32) else (1 : Int32))
def Q2 (Z : State) (p0 : Int32) (h0 : Heap) (n0 : Nat) (v : Option Value) (h : Heap) (L : List Loc) : Prop := v = some (.int (f2 p0)) ∧ Fr n0 L ∧ h = h0
set_option maxRecDepth 65536 in
set_option maxHeartbeats 40000000 in
theorem rm2 (l : Launch) (Z : State) (ar0 : Array Value) (hw : ∀ d ∈ tables_1, d.before ar0 Z = true) (ws : List Jvm.Cond) (p0 : Int32) (h0 : Heap) (n0 : Nat) (Z0 : n0 ≤ h0.size) :
  MetFree l (⟨"java/lang/StringLatin1", "canEncode", "(C)Z"⟩ : MethodName) (head1 (Jvm.Cond.code (⟨"java/lang/StringLatin1", "canEncode", "(C)Z"⟩ : MethodName) jdk_43_method_3_code 1 (some .boolean) :: ws) ({ frames := 0, cells := 0, slots := 0, locals := 0 } : Room)) (fun a U => a = #[(.int p0)] ∧ Z.Warmed39 U.vm ∧ U.heap = h0) (fun _ _ _ _ _ => True) (fun _ U o U' => ∃ v L, o = .returned v ∧ Q2 Z p0 h0 n0 v U'.heap L ∧ FrameEnd U o U' L ({ frames := 0, cells := 0, slots := 0, locals := 0 } : Room).cells ({ frames := 0, cells := 0, slots := 0, locals := 0 } : Room).slots) := by
 refine MetFree.of_bodySF (plainFor_of_name pn_0) hisR ?_
 intro p e s m args below meth c s₁ Bd hml0 hP hK
 obtain ⟨rfl, hZ, hh⟩ := hP
 have hx := Bd.exec
 have hby := Bd.bytes
 have hml : c.maxLocals = 1 := hml0
 have hown : s.vm.findClass "java/lang/StringLatin1" = some m.cls := by have q := findClass_of_methodNamed Bd.named; exact q
 have hnm := (name_of_methodNamed Bd.named Bd.method).1
 have X0 : Stand p l e ({ frames := 0, cells := 0, slots := 0, locals := 0 } : Room) s m #[(.int p0)] below meth c s₁ [] 0 0 := Stand.of_body Bd
 have e0 : s₁.heap = h0 := by rw [← hh, Bd.state]; rfl
 have N0 := Fr.nil n0
 have pre0 : own_P p e below s₁ (mkF m 0 #[vI p0] []) s₁ (entryFrame m #[(.int p0)] 1) := fun t k => castTop (ef_2 m p0) k
 have pre1 : own_P p e below s₁ (mkF m 4 #[vI p0] [(.int 255), (.int p0)]) s₁ (entryFrame m #[(.int p0)] 1) := by
  intro t k
  refine pre0 t ?_
  refine XS.iloadN X0.here hx rfl (hb hby d2_0) rfl ?_
  refine XS.sipush X0.here hx rfl (hb hby d2_1) ?_
  exact k
 by_cases hc4_2 : (255 : Int32) < p0
 ·
  obtain ⟨fs, hr, hrun, hended, hW, hsame⟩ := X0.leave (v := some (.int 0)) (fun h => by rw [Bd.returns] at h; cases h)
  refine ⟨_, _, pre1 _ ?_, hrun, hended, _, _, rfl, ?_, ⟨_, rfl⟩, hW, hsame.mono (by decide) (by decide)⟩
  ·
   refine XS.icmpYes X0.here hx rfl (pc0 := 4) (pc' := 11) rfl (hb hby d2_4) rfl (tlt hc4_2).2.2.1 (by decide) (by decide) ?_
   refine XS.iconst X0.here hx rfl (hb hby d2_11) ?_
   exact retN X0 hx (t := .boolean) Bd.returns (by simp) (hb hby d2_12) hr
  ·
   show Q2 Z p0 h0 n0 _ s₁.heap _
   rw [e0]
   exact ⟨by unfold f2; rw [if_pos hc4_2], N0, rfl⟩
 ·
  obtain ⟨fs, hr, hrun, hended, hW, hsame⟩ := X0.leave (v := some (.int 1)) (fun h => by rw [Bd.returns] at h; cases h)
  refine ⟨_, _, pre1 _ ?_, hrun, hended, _, _, rfl, ?_, ⟨_, rfl⟩, hW, hsame.mono (by decide) (by decide)⟩
  ·
   refine XS.icmpNo X0.here hx rfl (hb hby d2_4) rfl (flt hc4_2).2.2.1 ?_
   refine XS.iconst X0.here hx rfl (hb hby d2_7) ?_
   refine XS.goto X0.here hx rfl (pc0 := 8) (pc' := 12) rfl (hb hby d2_8) (by decide) (by decide) ?_
   exact retN X0 hx (t := .boolean) Bd.returns (by simp) (hb hby d2_12) hr
  ·
   show Q2 Z p0 h0 n0 _ s₁.heap _
   rw [e0]
   exact ⟨by unfold f2; rw [if_neg hc4_2], N0, rfl⟩
theorem d3_0 : decode jdk_43_method_46_code 0 = .ok (.iconst 1, 1) := by decide +kernel
theorem d3_1 : decode jdk_43_method_46_code 1 = .ok (.newarray .byte, 2) := by decide +kernel
theorem d3_3 : decode jdk_43_method_46_code 3 = .ok (.dup, 1) := by decide +kernel
theorem d3_4 : decode jdk_43_method_46_code 4 = .ok (.iconst 0, 1) := by decide +kernel
theorem d3_5 : decode jdk_43_method_46_code 5 = .ok (.iload_n 0, 1) := by decide +kernel
theorem d3_6 : decode jdk_43_method_46_code 6 = .ok (.i2b, 1) := by decide +kernel
theorem d3_7 : decode jdk_43_method_46_code 7 = .ok (.bastore, 1) := by decide +kernel
theorem d3_8 : decode jdk_43_method_46_code 8 = .ok (.areturn, 1) := by decide +kernel
theorem ef_3 (m : MethodId) (x0 : Int32) : entryFrame m #[(.int x0)] 1 = mkF m 0 #[vI x0] [] := by first | (simp [entryFrame, mkF, argsToLocals, Value.category]; done) | rfl
def Q3 (Z : State) (p0 : Int32) (h0 : Heap) (n0 : Nat) (v : Option Value) (h : Heap) (L : List Loc) : Prop := ∃ (b : Addr) (k_b : ClassId), v = some (.ref b) ∧ Fr n0 L ∧ Keep h0 h [] ∧ h0.size ≤ b ∧ Exa Z h b "[B" ∧ Arv Z h b k_b .byte (1 : Int32) [(.int ((p0.toInt8.toInt32).toInt8.toInt32))] (.int 0)
set_option maxRecDepth 65536 in
set_option maxHeartbeats 40000000 in
theorem rm3 (l : Launch) (Z : State) (ar0 : Array Value) (hw : ∀ d ∈ tables_1, d.before ar0 Z = true) (ws : List Jvm.Cond) (p0 : Int32) (h0 : Heap) (n0 : Nat) (Z0 : n0 ≤ h0.size) :
  MetFree l (⟨"java/lang/StringLatin1", "toBytes", "(C)[B"⟩ : MethodName) (head1 (Jvm.Cond.code (⟨"java/lang/StringLatin1", "toBytes", "(C)[B"⟩ : MethodName) jdk_43_method_46_code 1 (some (.array .byte)) :: ws) ({ frames := 0, cells := 1, slots := 1, locals := 0 } : Room)) (fun a U => a = #[(.int p0)] ∧ Z.Warmed39 U.vm ∧ U.heap = h0) (fun _ _ _ _ _ => True) (fun _ U o U' => ∃ v L, o = .returned v ∧ Q3 Z p0 h0 n0 v U'.heap L ∧ FrameEnd U o U' L ({ frames := 0, cells := 1, slots := 1, locals := 0 } : Room).cells ({ frames := 0, cells := 1, slots := 1, locals := 0 } : Room).slots) := by
 refine MetFree.of_bodySF (plainFor_of_name pn_0) hisR ?_
 intro p e s m args below meth c s₁ Bd hml0 hP hK
 obtain ⟨rfl, hZ, hh⟩ := hP
 have hx := Bd.exec
 have hby := Bd.bytes
 have hml : c.maxLocals = 1 := hml0
 have hown : s.vm.findClass "java/lang/StringLatin1" = some m.cls := by have q := findClass_of_methodNamed Bd.named; exact q
 have hnm := (name_of_methodNamed Bd.named Bd.method).1
 have X0 : Stand p l e ({ frames := 0, cells := 1, slots := 1, locals := 0 } : Room) s m #[(.int p0)] below meth c s₁ [] 0 0 := Stand.of_body Bd
 have e0 : s₁.heap = h0 := by rw [← hh, Bd.state]; rfl
 have N0 := Fr.nil n0
 have pre0 : own_P p e below s₁ (mkF m 0 #[vI p0] []) s₁ (entryFrame m #[(.int p0)] 1) := fun t k => castTop (ef_3 m p0) k
 have pre3 : own_P p e below s₁ (mkF m 1 #[vI p0] [(.int 1)]) s₁ (entryFrame m #[(.int p0)] 1) := by
  intro t k
  refine pre0 t ?_
  refine XS.iconst X0.here hx rfl (hb hby d3_0) ?_
  exact k
 obtain ⟨T4, h4, k4, X4, e4, E4, A4, C4, st4⟩ := newPE X0 hx hZ (own_w hw 15 rfl) e0 (g := (mkF m 1 #[vI p0] [(.int 1)])) rfl (hb hby d3_1) rfl (by decide) (cap := 1) (by decide) (by decide) (by decide) (by decide) (ad := "[B") rfl
 obtain ⟨b4, g4⟩ : ∃ z, z = h0.size := ⟨_, rfl⟩
 rw [← g4] at A4 C4 st4
 have g_b4 : n0 ≤ b4 := Nat.le_trans Z0 (Nat.le_of_eq g4.symm)
 have sz_b4 : h0.size ≤ b4 := Nat.le_trans (Keep.refl h0 []).1 (Nat.le_of_eq g4.symm)
 have Z4 : n0 ≤ h4.size := Nat.le_trans Z0 E4.1
 have K4 : Keep h0 h4 [] := (Keep.refl h0 []).ext E4
 have V_b4 : Arv Z h4 b4 k4 .byte (1 : Int32) [(.int 0)] (.int 0) := (Arv.new A4 (by decide)).pad (pad_rep [] (.int 0) 1)
 have pre5 : own_P p e below T4 (mkF m 3 #[vI p0] [(.ref b4)]) s₁ (entryFrame m #[(.int p0)] 1) := fun t k => pre3 t (st4 t k)
 have pre6 : own_P p e below T4 (mkF m 7 #[vI p0] [(.int (p0.toInt8.toInt32)), (.int 0), (.ref b4), (.ref b4)]) s₁ (entryFrame m #[(.int p0)] 1) := by
  intro t k
  refine pre5 t ?_
  refine XS.dup X4.here hx rfl (hb hby d3_3) rfl rfl ?_
  refine XS.iconst X4.here hx rfl (hb hby d3_4) ?_
  refine XS.iloadN X4.here hx rfl (hb hby d3_5) rfl ?_
  refine XS.i2b X4.here hx rfl (hb hby d3_6) rfl ?_
  exact k
 obtain ⟨cl7, Ar7, q7, S7, M7, H7, G7⟩ := id V_b4
 have hin7 : ¬ ((0 : Int32) < 0 ∨ cl7.slots.size ≤ ((0 : Int32)).toNatClampNeg) := inb_of S7 ⟨by decide, by decide⟩
 obtain ⟨T7, h7, X7, e7, W7, st7⟩ := stB X4 hx hZ e4 Ar7 (j := (0 : Int32)) hin7 (g := (mkF m 7 #[vI p0] [(.int (p0.toInt8.toInt32)), (.int 0), (.ref b4), (.ref b4)])) rfl rfl (hb hby d3_7)
 have Z7 : n0 ≤ h7.size := Nat.le_trans Z4 (Keep.of_wr W7).1
 have K7 : Keep h0 h7 [] := K4.wr W7 (Or.inr sz_b4)
 have N7 := Fr.snoc X7 N0 g_b4
 have Ef8 : Exa Z h7 b4 "[B" := (C4).wr W7
 have V7 : Arv Z h7 b4 k4 .byte (1 : Int32) [(.int ((p0.toInt8.toInt32).toInt8.toInt32))] (.int 0) := Arv.set Ar7 q7 S7 M7 H7 G7 (fits_nar_byte _) W7 0 rfl (Nat.le_of_ble_eq_true rfl)
 have pre9 : own_P p e below T7 (mkF m 8 #[vI p0] [(.ref b4)]) s₁ (entryFrame m #[(.int p0)] 1) := fun t k => pre6 t (st7 t k)
 obtain ⟨fs, hr, hrun, hended, hW, hsame⟩ := X7.leave (v := some (.ref b4)) (fun h => by rw [Bd.returns] at h; cases h)
 refine ⟨_, _, pre9 _ ?_, hrun, hended, _, _, rfl, ?_, ⟨_, rfl⟩, hW, hsame.mono (by decide) (by decide)⟩
 ·
  exact retOut X7 hx Bd.returns rfl (Or.inr (Or.inr (Or.inr (Or.inr ⟨rfl, rfl, rfl⟩)))) (hb hby d3_8) hr
 ·
  show Q3 Z p0 h0 n0 _ T7.heap _
  rw [e7]
  exact ⟨b4, k4, rfl, N7, K7, sz_b4, Ef8, V7⟩
theorem pn_1 : plainName "java/lang/String" = true := by first | (simp [plainName, overriddenIn]; done) | decide +kernel
theorem d4_0 : decode jdk_42_method_151_code 0 = .ok (.aload_n 0, 1) := by decide +kernel
theorem d4_1 : decode jdk_42_method_151_code 1 = .ok (.invokespecial 1, 3) := by decide +kernel
theorem d4_4 : decode jdk_42_method_151_code 4 = .ok (.aload_n 0, 1) := by decide +kernel
theorem d4_5 : decode jdk_42_method_151_code 5 = .ok (.aload_n 1, 1) := by decide +kernel
theorem d4_6 : decode jdk_42_method_151_code 6 = .ok (.putfield 9, 3) := by decide +kernel
theorem d4_9 : decode jdk_42_method_151_code 9 = .ok (.aload_n 0, 1) := by decide +kernel
theorem d4_10 : decode jdk_42_method_151_code 10 = .ok (.iload_n 2, 1) := by decide +kernel
theorem d4_11 : decode jdk_42_method_151_code 11 = .ok (.putfield 15, 3) := by decide +kernel
theorem d4_14 : decode jdk_42_method_151_code 14 = .ok (.return_, 1) := by decide +kernel
theorem ef_4_b (m : MethodId) (x0 : Addr) (x1 : Addr) (x2 : Int32) : entryFrame m #[(.ref x0), (.ref x1), (.int x2)] 3 = mkF m 0 #[vR x0, vR x1, vI x2] [] := by first | (simp [entryFrame, mkF, argsToLocals, Value.category]; done) | rfl
def Q4_b (Z : State) (a0 : Addr) (a1 : Addr) (h0 : Heap) (n0 : Nat) (v : Option Value) (h : Heap) (L : List Loc) : Prop := v = none ∧ Fr n0 L ∧ Keep h0 h [a0] ∧ Exa Z h a0 "java/lang/String" ∧ Fld Z h a0 "java/lang/String" "value" "[B" (.ref a1) ∧ Fld Z h a0 "java/lang/String" "coder" "B" (.int 0)
set_option maxRecDepth 65536 in
set_option maxHeartbeats 40000000 in
theorem rm4_b (l : Launch) (Z : State) (ar0 : Array Value) (hw : ∀ d ∈ tables_1, d.before ar0 Z = true) (ws : List Jvm.Cond) (a0 : Addr) (a1 : Addr) (h0 : Heap) (n0 : Nat) (Z0 : n0 ≤ h0.size) (E_a0 : Exa Z h0 a0 "java/lang/String") (F_value_a0 : Fld Z h0 a0 "java/lang/String" "value" "[B" .null) (F_coder_a0 : Fld Z h0 a0 "java/lang/String" "coder" "B" (.int 0)) (g_a0 : n0 ≤ a0) :
  MetFree l (⟨"java/lang/String", "<init>", "([BB)V"⟩ : MethodName) (head1 (Jvm.Cond.code (⟨"java/lang/String", "<init>", "([BB)V"⟩ : MethodName) jdk_42_method_151_code 3 none :: ws) ({ frames := 1, cells := 0, slots := 0, locals := 12 } : Room)) (fun a U => a = #[(.ref a0), (.ref a1), (.int 0)] ∧ Z.Warmed39 U.vm ∧ U.heap = h0) (fun _ _ _ _ _ => True) (fun _ U o U' => ∃ v L, o = .returned v ∧ Q4_b Z a0 a1 h0 n0 v U'.heap L ∧ FrameEnd U o U' L ({ frames := 1, cells := 0, slots := 0, locals := 12 } : Room).cells ({ frames := 1, cells := 0, slots := 0, locals := 12 } : Room).slots) := by
 refine MetFree.of_bodySF (plainFor_of_name pn_1) hisR ?_
 intro p e s m args below meth c s₁ Bd hml0 hP hK
 obtain ⟨rfl, hZ, hh⟩ := hP
 have hx := Bd.exec
 have hby := Bd.bytes
 have hml : c.maxLocals = 3 := hml0
 have hown : s.vm.findClass "java/lang/String" = some m.cls := by have q := findClass_of_methodNamed Bd.named; exact q
 have hnm := (name_of_methodNamed Bd.named Bd.method).1
 have X0 : Stand p l e ({ frames := 1, cells := 0, slots := 0, locals := 12 } : Room) s m #[(.ref a0), (.ref a1), (.int 0)] below meth c s₁ [] 0 0 := Stand.of_body Bd
 have e0 : s₁.heap = h0 := by rw [← hh, Bd.state]; rfl
 have N0 := Fr.nil n0
 have pre0 : own_P p e below s₁ (mkF m 0 #[vR a0, vR a1, vI 0] []) s₁ (entryFrame m #[(.ref a0), (.ref a1), (.int 0)] 3) := fun t k => castTop (ef_4_b m a0 a1 (0 : Int32)) k
 have pre10 : own_P p e below s₁ (mkF m 1 #[vR a0, vR a1, vI 0] [(.ref a0)]) s₁ (entryFrame m #[(.ref a0), (.ref a1), (.int 0)] 3) := by
  intro t k
  refine pre0 t ?_
  refine XS.aloadN X0.here hx rfl (hb hby d4_0) rfl rfl ?_
  exact k
 obtain ⟨T11, X11, e11, st11⟩ := initO X0 hx hZ hown (own_w hw 20 rfl) (own_w hw 21 rfl) (own_w hw 22 rfl) e0 (g := (mkF m 1 #[vR a0, vR a1, vI 0] [(.ref a0)])) rfl (by rw [hml]; rfl) rfl (hb hby d4_1) (by decide) (W := 0) (by show 2 * 0 + _ ≤ _; exact Nat.le_of_eq rfl) (by decide)
 have pre12 : own_P p e below T11 (mkF m 4 #[vR a0, vR a1, vI 0] []) s₁ (entryFrame m #[(.ref a0), (.ref a1), (.int 0)] 3) := fun t k => pre10 t (st11 t k)
 have pre13 : own_P p e below T11 (mkF m 6 #[vR a0, vR a1, vI 0] [(.ref a1), (.ref a0)]) s₁ (entryFrame m #[(.ref a0), (.ref a1), (.int 0)] 3) := by
  intro t k
  refine pre12 t ?_
  refine XS.aloadN X11.here hx rfl (hb hby d4_4) rfl rfl ?_
  refine XS.aloadN X11.here hx rfl (hb hby d4_5) rfl rfl ?_
  exact k
 obtain ⟨T14, h14, X14, e14, W14, st14⟩ := putF X11 hx hZ hown (host := "") (Or.inl (own_w hw 23 rfl)) Via.refl e11 F_value_a0 E_a0 (Or.inr ⟨(own_w hw 24 rfl), rfl, hnm⟩) (own_w hw 11 rfl) (ty := (.array .byte)) (by decide) rfl rfl (g := (mkF m 6 #[vR a0, vR a1, vI 0] [(.ref a1), (.ref a0)])) rfl rfl (hb hby d4_6)
 have Z14 : n0 ≤ h14.size := Nat.le_trans Z0 (Keep.of_wr W14).1
 have K14 : Keep h0 h14 [a0] := (Keep.refl h0 [a0]).wr W14 (Or.inl (List.mem_of_getElem? (i := 0) rfl))
 have N14 := Fr.snoc X14 N0 g_a0
 have Ef15 : Exa Z h14 a0 "java/lang/String" := (E_a0).wr W14
 have Ff16 : Fld Z h14 a0 "java/lang/String" "coder" "B" (.int 0) := (F_coder_a0).other W14 (Or.inr (slot_ne (Or.inr (own_w hw 26 rfl)) (Or.inr (own_w hw 24 rfl)) (by decide) (t := .byte) (t' := (.array .byte)) (by decide) (by decide)))
 have Fw14 : Fld Z h14 a0 "java/lang/String" "value" "[B" (.ref a1) := (F_value_a0).same W14
 have pre17 : own_P p e below T14 (mkF m 9 #[vR a0, vR a1, vI 0] []) s₁ (entryFrame m #[(.ref a0), (.ref a1), (.int 0)] 3) := fun t k => pre13 t (st14 t k)
 have pre18 : own_P p e below T14 (mkF m 11 #[vR a0, vR a1, vI 0] [(.int 0), (.ref a0)]) s₁ (entryFrame m #[(.ref a0), (.ref a1), (.int 0)] 3) := by
  intro t k
  refine pre17 t ?_
  refine XS.aloadN X14.here hx rfl (hb hby d4_9) rfl rfl ?_
  refine XS.iloadN X14.here hx rfl (hb hby d4_10) rfl ?_
  exact k
 obtain ⟨T19, h19, X19, e19, W19, st19⟩ := putFN X14 hx hZ hown (own_w hw 25 rfl) Via.refl e14 Ff16 Ef15 (Or.inr ⟨(own_w hw 26 rfl), rfl, hnm⟩) (own_w hw 11 rfl) (ty := .byte) (v' := (.int 0)) (by decide) rfl rfl (g := (mkF m 11 #[vR a0, vR a1, vI 0] [(.int 0), (.ref a0)])) rfl rfl (hb hby d4_11)
 have Z19 : n0 ≤ h19.size := Nat.le_trans Z14 (Keep.of_wr W19).1
 have K19 : Keep h0 h19 [a0] := K14.wr W19 (Or.inl (List.mem_of_getElem? (i := 0) rfl))
 have N19 := Fr.snoc X19 N14 g_a0
 have Ef20 : Exa Z h19 a0 "java/lang/String" := (Ef15).wr W19
 have Ff21 : Fld Z h19 a0 "java/lang/String" "value" "[B" (.ref a1) := (Fw14).other W19 (Or.inr (slot_ne (Or.inr (own_w hw 24 rfl)) (Or.inr (own_w hw 26 rfl)) (by decide) (t := (.array .byte)) (t' := .byte) (by decide) (by decide)))
 have Fw19 : Fld Z h19 a0 "java/lang/String" "coder" "B" (.int 0) := (Ff16).same W19
 have pre22 : own_P p e below T19 (mkF m 14 #[vR a0, vR a1, vI 0] []) s₁ (entryFrame m #[(.ref a0), (.ref a1), (.int 0)] 3) := fun t k => pre18 t (st19 t k)
 obtain ⟨fs, hr, hrun, hended, hW, hsame⟩ := X19.leave (v := none) (fun _ => rfl)
 refine ⟨_, _, pre22 _ ?_, hrun, hended, _, _, rfl, ?_, ⟨_, rfl⟩, hW, hsame.mono (by decide) (by decide)⟩
 ·
  exact X19.returnOut hx Bd.returns (hb hby d4_14) hr
 ·
  show Q4_b Z a0 a1 h0 n0 _ T19.heap _
  rw [e19]
  exact ⟨rfl, N19, K19, Ef20, Ff21, Fw19⟩
theorem pd_0 : parseMethodDescriptor "(C)Z" = some ⟨[.char], some .boolean⟩ := by decide +kernel
theorem pd_1 : parseMethodDescriptor "(C)[B" = some ⟨[.char], some (.array .byte)⟩ := by decide +kernel
theorem pd_2 : parseMethodDescriptor "([BB)V" = some ⟨[(.array .byte), .byte], none⟩ := by decide +kernel
theorem d1_0 : decode jdk_42_method_139_code 0 = .ok (.getstatic 38, 3) := by decide +kernel
theorem d1_3 : decode jdk_42_method_139_code 3 = .ok (.ifCond .eq 23, 3) := by decide +kernel
theorem d1_6 : decode jdk_42_method_139_code 6 = .ok (.iload_n 0, 1) := by decide +kernel
theorem d1_7 : decode jdk_42_method_139_code 7 = .ok (.invokestatic 1015, 3) := by decide +kernel
theorem d1_10 : decode jdk_42_method_139_code 10 = .ok (.ifCond .eq 16, 3) := by decide +kernel
theorem d1_13 : decode jdk_42_method_139_code 13 = .ok (.new 10, 3) := by decide +kernel
theorem d1_16 : decode jdk_42_method_139_code 16 = .ok (.dup, 1) := by decide +kernel
theorem d1_17 : decode jdk_42_method_139_code 17 = .ok (.iload_n 0, 1) := by decide +kernel
theorem d1_18 : decode jdk_42_method_139_code 18 = .ok (.invokestatic 1018, 3) := by decide +kernel
theorem d1_21 : decode jdk_42_method_139_code 21 = .ok (.iconst 0, 1) := by decide +kernel
theorem d1_22 : decode jdk_42_method_139_code 22 = .ok (.invokespecial 209, 3) := by decide +kernel
theorem d1_25 : decode jdk_42_method_139_code 25 = .ok (.areturn, 1) := by decide +kernel
theorem ef_1 (m : MethodId) (x0 : Int32) : entryFrame m #[(.int x0)] 1 = mkF m 0 #[vI x0] [] := by first | (simp [entryFrame, mkF, argsToLocals, Value.category]; done) | rfl
def Q1 (Z : State) (p0 : Int32) (gc1 : Int32) (h0 : Heap) (n0 : Nat) (v : Option Value) (h : Heap) (L : List Loc) : Prop := ∃ (o : Addr) (t : Addr) (k_t : ClassId), v = some (.ref o) ∧ Fr n0 L ∧ Keep h0 h [] ∧ h0.size ≤ o ∧ Exa Z h o "java/lang/String" ∧ Fld Z h o "java/lang/String" "value" "[B" (.ref t) ∧ Fld Z h o "java/lang/String" "coder" "B" (.int 0) ∧ h0.size ≤ t ∧ Exa Z h t "[B" ∧ Arv Z h t k_t .byte (1 : Int32) ((([p0] : List Int32).map (fun c => c.toInt8.toInt32)).map Value.int) (.int 0)
set_option maxRecDepth 65536 in
set_option maxHeartbeats 40000000 in
theorem rm1 (l : Launch) (Z : State) (ar0 : Array Value) (hw : ∀ d ∈ tables_1, d.before ar0 Z = true) (ws : List Jvm.Cond) (p0 : Int32) (gc1 : Int32) (h0 : Heap) (n0 : Nat) (Z0 : n0 ≤ h0.size) (P5 : ¬ (gc1 = (0 : Int32))) (hq : own_R p0) (S_COMPACT_STRINGS : Sta Z h0 "java/lang/String" "COMPACT_STRINGS" "Z" (.int gc1)) :
  MetFree l (⟨"java/lang/String", "valueOf", "(C)Ljava/lang/String;"⟩ : MethodName) (head1 (Jvm.Cond.code (⟨"java/lang/String", "valueOf", "(C)Ljava/lang/String;"⟩ : MethodName) jdk_42_method_139_code 1 (some (.object "java/lang/String")) :: ws) ({ frames := 2, cells := 2, slots := 5, locals := 27 } : Room)) (fun a U => a = #[(.int p0)] ∧ Z.Warmed39 U.vm ∧ U.heap = h0) (fun _ _ _ _ _ => True) (fun _ U o U' => ∃ v L, o = .returned v ∧ Q1 Z p0 gc1 h0 n0 v U'.heap L ∧ FrameEnd U o U' L ({ frames := 2, cells := 2, slots := 5, locals := 27 } : Room).cells ({ frames := 2, cells := 2, slots := 5, locals := 27 } : Room).slots) := by
 refine MetFree.of_bodySF (plainFor_of_name pn_1) hisR ?_
 intro p e s m args below meth c s₁ Bd hml0 hP hK
 obtain ⟨rfl, hZ, hh⟩ := hP
 have hx := Bd.exec
 have hby := Bd.bytes
 have hml : c.maxLocals = 1 := hml0
 have hown : s.vm.findClass "java/lang/String" = some m.cls := by have q := findClass_of_methodNamed Bd.named; exact q
 have hnm := (name_of_methodNamed Bd.named Bd.method).1
 have X0 : Stand p l e ({ frames := 2, cells := 2, slots := 5, locals := 27 } : Room) s m #[(.int p0)] below meth c s₁ [] 0 0 := Stand.of_body Bd
 have e0 : s₁.heap = h0 := by rw [← hh, Bd.state]; rfl
 have N0 := Fr.nil n0
 have pre0 : own_P p e below s₁ (mkF m 0 #[vI p0] []) s₁ (entryFrame m #[(.int p0)] 1) := fun t k => castTop (ef_1 m p0) k
 obtain ⟨T23, X23, e23, st23⟩ := getS2 X0 hx hZ hown (host := "") (Or.inl (own_w hw 5 rfl)) Via.refl e0 S_COMPACT_STRINGS (g := (mkF m 0 #[vI p0] [])) rfl (hb hby d1_0)
 have pre24 : own_P p e below T23 (mkF m 3 #[vI p0] [(.int gc1)]) s₁ (entryFrame m #[(.int p0)] 1) := fun t k => pre0 t (st23 t k)
 have hk25 : ¬ (gc1 = (0 : Int32)) := P5
 have pre26 : own_P p e below T23 (mkF m 7 #[vI p0] [(.int p0)]) s₁ (entryFrame m #[(.int p0)] 1) := by
  intro t k
  refine pre24 t ?_
  refine XS.ifNo X23.here hx rfl (hb hby d1_3) rfl ((if0 _ _).trans (feq hk25).1) ?_
  refine XS.iloadN X23.here hx rfl (hb hby d1_6) rfl ?_
  exact k
 obtain ⟨_, _, ⟨T27, L27, k27, n27⟩, -, X27, ⟨Lc27, hQ27, l27, y27, z27⟩, st27⟩ := Jvm.LawKit.callS X23 hx (y := (⟨"java/lang/StringLatin1", "canEncode", "(C)Z"⟩ : MethodName)) hown (mvT hZ (own_w hw 6 rfl)) (mvT hZ (own_w hw 7 rfl)) (mvT hZ (own_w hw 8 rfl)) (mvT hZ (own_w hw 9 rfl)) (by decide) (backOf (W := 0) (rm2 l Z ar0 hw [] p0 h0 n0 Z0) hZ (own_w hw 9 rfl) (own_w hw 8 rfl) (by decide) (by decide)) (g := (mkF m 7 #[vI p0] [(.int p0)])) rfl (by rw [hml]; rfl) (argsL := [(.int p0)]) (rest := []) (lenOf pd_0 rfl) rfl (by show 2 * 0 + _ ≤ _; exact Nat.le_of_eq rfl) (hb hby d1_7) (fun _ _ => ⟨rfl, e23, (by decide : 0 + 0 ≤ _), (by decide : 0 + 0 ≤ _)⟩)
 dsimp only [Pt.U, Pt.locs, Pt.cells, Pt.slots] at X27 l27 y27 z27 st27 hQ27
 subst l27 y27 z27
 obtain ⟨rfl, N27q, e27⟩ := hQ27
 have N27 := Fr.app N0 N27q
 have pre28 : own_P p e below T27 (mkF m 10 #[vI p0] [(.int (f2 p0))]) s₁ (entryFrame m #[(.int p0)] 1) := fun t k => pre26 t (st27 t k)
 have hk29 : ¬ ((f2 p0) = (0 : Int32)) := (by unfold f2; rw [if_neg hq.2]; decide)
 have pre30 : own_P p e below T27 (mkF m 13 #[vI p0] []) s₁ (entryFrame m #[(.int p0)] 1) := by
  intro t k
  refine pre28 t ?_
  refine XS.ifNo X27.here hx rfl (hb hby d1_10) rfl ((if0 _ _).trans (feq hk29).1) ?_
  exact k
 obtain ⟨T31, h31, X31, e31, E31, A31, D31, -, st31⟩ := newO X27 hx hZ hown (own_w hw 10 rfl) (own_w hw 11 rfl) (own_w hw 3 rfl) e27 (g := (mkF m 13 #[vI p0] [])) rfl (hb hby d1_13) (by decide) (by decide)
 obtain ⟨b31, g31⟩ : ∃ z, z = h0.size := ⟨_, rfl⟩
 rw [← g31] at A31 D31 st31
 have g_b31 : n0 ≤ b31 := Nat.le_trans Z0 (Nat.le_of_eq g31.symm)
 have sz_b31 : h0.size ≤ b31 := Nat.le_trans (Keep.refl h0 []).1 (Nat.le_of_eq g31.symm)
 have Z31 : n0 ≤ h31.size := Nat.le_trans Z0 E31.1
 have K31 : Keep h0 h31 [] := (Keep.refl h0 []).ext E31
 have Sf32 : Sta Z h31 "java/lang/String" "COMPACT_STRINGS" "Z" (.int gc1) := (S_COMPACT_STRINGS).ext E31
 have Fvalue_b31 : Fld Z h31 b31 "java/lang/String" "value" "[B" .null := D31 (Or.inr (own_w hw 24 rfl)) (ty := (.array .byte)) (by decide)
 have Fcoder_b31 : Fld Z h31 b31 "java/lang/String" "coder" "B" (.int 0) := D31 (Or.inr (own_w hw 26 rfl)) (ty := .byte) (by decide)
 have pre33 : own_P p e below T31 (mkF m 16 #[vI p0] [(.ref b31)]) s₁ (entryFrame m #[(.int p0)] 1) := fun t k => pre30 t (st31 t k)
 have pre34 : own_P p e below T31 (mkF m 18 #[vI p0] [(.int p0), (.ref b31), (.ref b31)]) s₁ (entryFrame m #[(.int p0)] 1) := by
  intro t k
  refine pre33 t ?_
  refine XS.dup X31.here hx rfl (hb hby d1_16) rfl rfl ?_
  refine XS.iloadN X31.here hx rfl (hb hby d1_17) rfl ?_
  exact k
 obtain ⟨_, _, ⟨T35, L35, k35, n35⟩, -, X35, ⟨Lc35, hQ35, l35, y35, z35⟩, st35⟩ := Jvm.LawKit.callS X31 hx (y := (⟨"java/lang/StringLatin1", "toBytes", "(C)[B"⟩ : MethodName)) hown (mvT hZ (own_w hw 12 rfl)) (mvT hZ (own_w hw 13 rfl)) (mvT hZ (own_w hw 8 rfl)) (mvT hZ (own_w hw 14 rfl)) (by decide) (backOf (W := 2) (rm3 l Z ar0 hw [] p0 h31 n0 Z31) hZ (own_w hw 14 rfl) (own_w hw 8 rfl) (by decide) (by decide)) (g := (mkF m 18 #[vI p0] [(.int p0), (.ref b31), (.ref b31)])) rfl (by rw [hml]; rfl) (argsL := [(.int p0)]) (rest := [(.ref b31), (.ref b31)]) (lenOf pd_1 rfl) rfl (by show 2 * 0 + _ ≤ _; exact Nat.le_of_eq rfl) (hb hby d1_18) (fun _ _ => ⟨rfl, e31, (by decide : 1 + 1 ≤ _), (by decide : 4 + 1 ≤ _)⟩)
 dsimp only [Pt.U, Pt.locs, Pt.cells, Pt.slots] at X35 l35 y35 z35 st35 hQ35
 subst l35 y35 z35
 obtain ⟨h35, e35⟩ : ∃ h, T35.heap = h := ⟨_, rfl⟩
 rw [e35] at hQ35
 obtain ⟨b35, kb35, rfl, N35q, K35q, y_b35, Ob35_0, Ob35_1⟩ := hQ35
 have N35 := Fr.app N27 N35q
 have ne_b31_b35 : b31 ≠ b35 := Nat.ne_of_lt (Nat.lt_of_lt_of_le (A31).lt y_b35)
 have g_b35 : n0 ≤ b35 := Nat.le_trans Z31 y_b35
 have sz_b35 : h0.size ≤ b35 := Nat.le_trans K31.1 y_b35
 have Z35 : n0 ≤ h35.size := Nat.le_trans Z31 K35q.1
 have K35 : Keep h0 h35 [] := K31.trans K35q (fun x hx => absurd hx List.not_mem_nil)
 have Sf36 : Sta Z h35 "java/lang/String" "COMPACT_STRINGS" "Z" (.int gc1) := own_sta_keep0 Sf32 K35q
 have Ef37 : Exa Z h35 b31 "java/lang/String" := (A31).keep K35q
 have Ff38 : Fld Z h35 b31 "java/lang/String" "value" "[B" .null := (Fvalue_b31).keep K35q List.not_mem_nil
 have Ff39 : Fld Z h35 b31 "java/lang/String" "coder" "B" (.int 0) := (Fcoder_b31).keep K35q List.not_mem_nil
 have pre40 : own_P p e below T35 (mkF m 21 #[vI p0] [(.ref b35), (.ref b31), (.ref b31)]) s₁ (entryFrame m #[(.int p0)] 1) := fun t k => pre34 t (st35 t k)
 have pre41 : own_P p e below T35 (mkF m 22 #[vI p0] [(.int 0), (.ref b35), (.ref b31), (.ref b31)]) s₁ (entryFrame m #[(.int p0)] 1) := by
  intro t k
  refine pre40 t ?_
  refine XS.iconst X35.here hx rfl (hb hby d1_21) ?_
  exact k
 obtain ⟨_, _, ⟨T42, L42, k42, n42⟩, -, X42, ⟨Lc42, hQ42, l42, y42, z42⟩, st42⟩ := X35.specialBack hx (y := (⟨"java/lang/String", "<init>", "([BB)V"⟩ : MethodName)) rfl hown (mvT hZ (own_w hw 16 rfl)) (mvT hZ (own_w hw 17 rfl)) (mvT hZ (own_w hw 19 rfl)) (by decide) (backOf (W := 1) (rm4_b l Z ar0 hw [] b31 b35 h35 n0 Z35 Ef37 Ff38 Ff39 g_b31) hZ (own_w hw 19 rfl) (own_w hw 3 rfl) (by decide) (by decide)) (g := (mkF m 22 #[vI p0] [(.int 0), (.ref b35), (.ref b31), (.ref b31)])) rfl (by rw [hml]; rfl) (Steps.refl _) (a := b31) (argsL := [(.ref b35), (.int 0)]) (rest := [(.ref b31)]) (lenOf pd_2 rfl) rfl (by show 2 * 0 + _ ≤ _; exact Nat.le_of_eq rfl) (hb hby d1_22) (fun _ _ => ⟨rfl, e35, (by decide : 2 + 0 ≤ _), (by decide : 5 + 0 ≤ _)⟩)
 dsimp only [Pt.U, Pt.locs, Pt.cells, Pt.slots] at X42 l42 y42 z42 st42 hQ42
 subst l42 y42 z42
 obtain ⟨h42, e42⟩ : ∃ h, T42.heap = h := ⟨_, rfl⟩
 rw [e42] at hQ42
 obtain ⟨rfl, N42q, K42q, Q42_0, Q42_1, Q42_2⟩ := hQ42
 have N42 := Fr.app N35 N42q
 have Z42 : n0 ≤ h42.size := Nat.le_trans Z35 K42q.1
 have K42 : Keep h0 h42 [] := K35.trans K42q (fun x hx => by cases List.mem_singleton.mp hx; exact Or.inr sz_b31)
 have Sf43 : Sta Z h42 "java/lang/String" "COMPACT_STRINGS" "Z" (.int gc1) := own_sta_keep Sf36 K42q (own_ns1 (own_ns_exa Ef37))
 have Ef44 : Exa Z h42 b31 "java/lang/String" := (Ef37).keep K42q
 have Ef45 : Exa Z h42 b35 "[B" := (Ob35_0).keep K42q
 have Vf46 : Arv Z h42 b35 kb35 .byte (1 : Int32) [(.int ((p0.toInt8.toInt32).toInt8.toInt32))] (.int 0) := (Ob35_1).keep K42q (fun q => absurd (List.mem_singleton.mp q) ne_b31_b35.symm)
 have pre47 : own_P p e below T42 (mkF m 25 #[vI p0] [(.ref b31)]) s₁ (entryFrame m #[(.int p0)] 1) := fun t k => pre41 t (st42.trans k)
 have Bv48 : Arv Z h42 b35 kb35 .byte (1 : Int32) ((([p0] : List Int32).map (fun c => c.toInt8.toInt32)).map Value.int) (.int 0) := by have q := Vf46; rw [own_i8] at q; exact q
 obtain ⟨fs, hr, hrun, hended, hW, hsame⟩ := X42.leave (v := some (.ref b31)) (fun h => by rw [Bd.returns] at h; cases h)
 refine ⟨_, _, pre47 _ ?_, hrun, hended, _, _, rfl, ?_, ⟨_, rfl⟩, hW, hsame.mono (by decide) (by decide)⟩
 ·
  exact retOut X42 hx Bd.returns rfl (Or.inr (Or.inr (Or.inr (Or.inr ⟨rfl, rfl, rfl⟩)))) (hb hby d1_25) hr
 ·
  show Q1 Z p0 gc1 h0 n0 _ T42.heap _
  rw [e42]
  exact ⟨b31, b35, kb35, rfl, N42, K42, sz_b31, Q42_0, Q42_1, Q42_2, sz_b35, Ef45, Bv48⟩
theorem d27_0 : decode jdk_42_method_66_code 0 = .ok (.aload_n 0, 1) := by decide +kernel
theorem d27_1 : decode jdk_42_method_66_code 1 = .ok (.aload_n 1, 1) := by decide +kernel
theorem d27_2 : decode jdk_42_method_66_code 2 = .ok (.if_acmp .ne 5, 3) := by decide +kernel
theorem d27_5 : decode jdk_42_method_66_code 5 = .ok (.iconst 1, 1) := by decide +kernel
theorem d27_6 : decode jdk_42_method_66_code 6 = .ok (.ireturn, 1) := by decide +kernel
theorem ef_27_s (m : MethodId) (x0 : Addr) (x1 : Addr) : entryFrame m #[(.ref x1), (.ref x1)] 3 = mkF m 0 #[vR x1, vR x1, .unset] [] := by first | (simp [entryFrame, mkF, argsToLocals, Value.category]; done) | rfl
def Q27_s (Z : State) (a0 : Addr) (h0 : Heap) (n0 : Nat) (v : Option Value) (h : Heap) (L : List Loc) : Prop := v = some (.int 1) ∧ Fr n0 L ∧ h = h0
set_option maxRecDepth 65536 in
set_option maxHeartbeats 40000000 in
theorem rm27_s (l : Launch) (Z : State) (ar0 : Array Value) (hw : ∀ d ∈ tables_1, d.before ar0 Z = true) (ws : List Jvm.Cond) (a0 : Addr) (h0 : Heap) (n0 : Nat) (Z0 : n0 ≤ h0.size) :
  MetFree l (⟨"java/lang/String", "equals", "(Ljava/lang/Object;)Z"⟩ : MethodName) (head1 (Jvm.Cond.code (⟨"java/lang/String", "equals", "(Ljava/lang/Object;)Z"⟩ : MethodName) jdk_42_method_66_code 3 (some .boolean) :: ws) ({ frames := 0, cells := 0, slots := 0, locals := 0 } : Room)) (fun a U => a = #[(.ref a0), (.ref a0)] ∧ Z.Warmed39 U.vm ∧ U.heap = h0) (fun _ _ _ _ _ => True) (fun _ U o U' => ∃ v L, o = .returned v ∧ Q27_s Z a0 h0 n0 v U'.heap L ∧ FrameEnd U o U' L ({ frames := 0, cells := 0, slots := 0, locals := 0 } : Room).cells ({ frames := 0, cells := 0, slots := 0, locals := 0 } : Room).slots) := by
 refine MetFree.of_bodySF (plainFor_of_name pn_1) hisR ?_
 intro p e s m args below meth c s₁ Bd hml0 hP hK
 obtain ⟨rfl, hZ, hh⟩ := hP
 have hx := Bd.exec
 have hby := Bd.bytes
 have hml : c.maxLocals = 3 := hml0
 have hown : s.vm.findClass "java/lang/String" = some m.cls := by have q := findClass_of_methodNamed Bd.named; exact q
 have hnm := (name_of_methodNamed Bd.named Bd.method).1
 have X0 : Stand p l e ({ frames := 0, cells := 0, slots := 0, locals := 0 } : Room) s m #[(.ref a0), (.ref a0)] below meth c s₁ [] 0 0 := Stand.of_body Bd
 have e0 : s₁.heap = h0 := by rw [← hh, Bd.state]; rfl
 have N0 := Fr.nil n0
 have pre0 : own_P p e below s₁ (mkF m 0 #[vR a0, vR a0, .unset] []) s₁ (entryFrame m #[(.ref a0), (.ref a0)] 3) := fun t k => castTop (ef_27_s m a0 a0) k
 obtain ⟨fs, hr, hrun, hended, hW, hsame⟩ := X0.leave (v := some (.int 1)) (fun h => by rw [Bd.returns] at h; cases h)
 refine ⟨_, _, pre0 _ ?_, hrun, hended, _, _, rfl, ?_, ⟨_, rfl⟩, hW, hsame.mono (by decide) (by decide)⟩
 ·
  refine XS.aloadN X0.here hx rfl (hb hby d27_0) rfl rfl ?_
  refine XS.aloadN X0.here hx rfl (hb hby d27_1) rfl rfl ?_
  refine Jvm.RoadKit.acmp (g := (mkF m 2 #[vR a0, vR a0, .unset] [(.ref a0), (.ref a0)])) X0 hx rfl rfl rfl (pc0 := 2) (pc' := 5) (same := true) rfl (hb hby d27_2) rfl (decide_eq_true rfl) (by decide) (by decide) ?_
  refine XS.iconst X0.here hx rfl (hb hby d27_5) ?_
  exact retN X0 hx (t := .boolean) Bd.returns (by simp) (hb hby d27_6) hr
 ·
  show Q27_s Z a0 h0 n0 _ s₁.heap _
  rw [e0]
  exact ⟨rfl, N0, rfl⟩
theorem pn_2 : plainName "java/util/Objects" = true := by first | (simp [plainName, overriddenIn]; done) | decide +kernel
theorem d25_0 : decode jdk_31_method_10_code 0 = .ok (.aload_n 0, 1) := by decide +kernel
theorem d25_1 : decode jdk_31_method_10_code 1 = .ok (.ifnonnull 11, 3) := by decide +kernel
theorem d25_12 : decode jdk_31_method_10_code 12 = .ok (.aload_n 0, 1) := by decide +kernel
theorem d25_13 : decode jdk_31_method_10_code 13 = .ok (.areturn, 1) := by decide +kernel
theorem ef_25 (m : MethodId) (x0 : Addr) : entryFrame m #[(.ref x0)] 1 = mkF m 0 #[vR x0] [] := by first | (simp [entryFrame, mkF, argsToLocals, Value.category]; done) | rfl
def Q25 (Z : State) (a0 : Addr) (h0 : Heap) (n0 : Nat) (v : Option Value) (h : Heap) (L : List Loc) : Prop := v = some (.ref a0) ∧ Fr n0 L ∧ h = h0
set_option maxRecDepth 65536 in
set_option maxHeartbeats 40000000 in
theorem rm25 (l : Launch) (Z : State) (ar0 : Array Value) (hw : ∀ d ∈ tables_1, d.before ar0 Z = true) (ws : List Jvm.Cond) (a0 : Addr) (h0 : Heap) (n0 : Nat) (Z0 : n0 ≤ h0.size) :
  MetFree l (⟨"java/util/Objects", "requireNonNull", "(Ljava/lang/Object;)Ljava/lang/Object;"⟩ : MethodName) (head1 (Jvm.Cond.code (⟨"java/util/Objects", "requireNonNull", "(Ljava/lang/Object;)Ljava/lang/Object;"⟩ : MethodName) jdk_31_method_10_code 1 (some (.object "java/lang/Object")) :: ws) ({ frames := 0, cells := 0, slots := 0, locals := 0 } : Room)) (fun a U => a = #[(.ref a0)] ∧ Z.Warmed39 U.vm ∧ U.heap = h0) (fun _ _ _ _ _ => True) (fun _ U o U' => ∃ v L, o = .returned v ∧ Q25 Z a0 h0 n0 v U'.heap L ∧ FrameEnd U o U' L ({ frames := 0, cells := 0, slots := 0, locals := 0 } : Room).cells ({ frames := 0, cells := 0, slots := 0, locals := 0 } : Room).slots) := by
 refine MetFree.of_bodySF (plainFor_of_name pn_2) hisR ?_
 intro p e s m args below meth c s₁ Bd hml0 hP hK
 obtain ⟨rfl, hZ, hh⟩ := hP
 have hx := Bd.exec
 have hby := Bd.bytes
 have hml : c.maxLocals = 1 := hml0
 have hown : s.vm.findClass "java/util/Objects" = some m.cls := by have q := findClass_of_methodNamed Bd.named; exact q
 have hnm := (name_of_methodNamed Bd.named Bd.method).1
 have X0 : Stand p l e ({ frames := 0, cells := 0, slots := 0, locals := 0 } : Room) s m #[(.ref a0)] below meth c s₁ [] 0 0 := Stand.of_body Bd
 have e0 : s₁.heap = h0 := by rw [← hh, Bd.state]; rfl
 have N0 := Fr.nil n0
 have pre0 : own_P p e below s₁ (mkF m 0 #[vR a0] []) s₁ (entryFrame m #[(.ref a0)] 1) := fun t k => castTop (ef_25 m a0) k
 obtain ⟨fs, hr, hrun, hended, hW, hsame⟩ := X0.leave (v := some (.ref a0)) (fun h => by rw [Bd.returns] at h; cases h)
 refine ⟨_, _, pre0 _ ?_, hrun, hended, _, _, rfl, ?_, ⟨_, rfl⟩, hW, hsame.mono (by decide) (by decide)⟩
 ·
  refine XS.aloadN X0.here hx rfl (hb hby d25_0) rfl rfl ?_
  refine XS.ifnonnullYes X0.here hx rfl (pc0 := 1) (pc' := 12) rfl (hb hby d25_1) rfl (by decide) (by decide) ?_
  refine XS.aloadN X0.here hx rfl (hb hby d25_12) rfl rfl ?_
  exact retOut X0 hx Bd.returns rfl (Or.inr (Or.inr (Or.inr (Or.inr ⟨rfl, rfl, rfl⟩)))) (hb hby d25_13) hr
 ·
  show Q25 Z a0 h0 n0 _ s₁.heap _
  rw [e0]
  exact ⟨rfl, N0, rfl⟩
theorem d9_0 : decode jdk_31_method_11_code 0 = .ok (.aload_n 0, 1) := by decide +kernel
theorem d9_1 : decode jdk_31_method_11_code 1 = .ok (.ifnonnull 12, 3) := by decide +kernel
theorem d9_13 : decode jdk_31_method_11_code 13 = .ok (.aload_n 0, 1) := by decide +kernel
theorem d9_14 : decode jdk_31_method_11_code 14 = .ok (.areturn, 1) := by decide +kernel
theorem ef_9 (m : MethodId) (x0 : Addr) (x1 : Addr) : entryFrame m #[(.ref x0), (.ref x1)] 2 = mkF m 0 #[vR x0, vR x1] [] := by first | (simp [entryFrame, mkF, argsToLocals, Value.category]; done) | rfl
def Q9 (Z : State) (a0 : Addr) (a1 : Addr) (h0 : Heap) (n0 : Nat) (v : Option Value) (h : Heap) (L : List Loc) : Prop := v = some (.ref a0) ∧ Fr n0 L ∧ h = h0
set_option maxRecDepth 65536 in
set_option maxHeartbeats 40000000 in
theorem rm9 (l : Launch) (Z : State) (ar0 : Array Value) (hw : ∀ d ∈ tables_1, d.before ar0 Z = true) (ws : List Jvm.Cond) (a0 : Addr) (a1 : Addr) (h0 : Heap) (n0 : Nat) (Z0 : n0 ≤ h0.size) :
  MetFree l (⟨"java/util/Objects", "requireNonNull", "(Ljava/lang/Object;Ljava/lang/String;)Ljava/lang/Object;"⟩ : MethodName) (head1 (Jvm.Cond.code (⟨"java/util/Objects", "requireNonNull", "(Ljava/lang/Object;Ljava/lang/String;)Ljava/lang/Object;"⟩ : MethodName) jdk_31_method_11_code 2 (some (.object "java/lang/Object")) :: ws) ({ frames := 0, cells := 0, slots := 0, locals := 0 } : Room)) (fun a U => a = #[(.ref a0), (.ref a1)] ∧ Z.Warmed39 U.vm ∧ U.heap = h0) (fun _ _ _ _ _ => True) (fun _ U o U' => ∃ v L, o = .returned v ∧ Q9 Z a0 a1 h0 n0 v U'.heap L ∧ FrameEnd U o U' L ({ frames := 0, cells := 0, slots := 0, locals := 0 } : Room).cells ({ frames := 0, cells := 0, slots := 0, locals := 0 } : Room).slots) := by
 refine MetFree.of_bodySF (plainFor_of_name pn_2) hisR ?_
 intro p e s m args below meth c s₁ Bd hml0 hP hK
 obtain ⟨rfl, hZ, hh⟩ := hP
 have hx := Bd.exec
 have hby := Bd.bytes
 have hml : c.maxLocals = 2 := hml0
 have hown : s.vm.findClass "java/util/Objects" = some m.cls := by have q := findClass_of_methodNamed Bd.named; exact q
 have hnm := (name_of_methodNamed Bd.named Bd.method).1
 have X0 : Stand p l e ({ frames := 0, cells := 0, slots := 0, locals := 0 } : Room) s m #[(.ref a0), (.ref a1)] below meth c s₁ [] 0 0 := Stand.of_body Bd
 have e0 : s₁.heap = h0 := by rw [← hh, Bd.state]; rfl
 have N0 := Fr.nil n0
 have pre0 : own_P p e below s₁ (mkF m 0 #[vR a0, vR a1] []) s₁ (entryFrame m #[(.ref a0), (.ref a1)] 2) := fun t k => castTop (ef_9 m a0 a1) k
 obtain ⟨fs, hr, hrun, hended, hW, hsame⟩ := X0.leave (v := some (.ref a0)) (fun h => by rw [Bd.returns] at h; cases h)
 refine ⟨_, _, pre0 _ ?_, hrun, hended, _, _, rfl, ?_, ⟨_, rfl⟩, hW, hsame.mono (by decide) (by decide)⟩
 ·
  refine XS.aloadN X0.here hx rfl (hb hby d9_0) rfl rfl ?_
  refine XS.ifnonnullYes X0.here hx rfl (pc0 := 1) (pc' := 13) rfl (hb hby d9_1) rfl (by decide) (by decide) ?_
  refine XS.aloadN X0.here hx rfl (hb hby d9_13) rfl rfl ?_
  exact retOut X0 hx Bd.returns rfl (Or.inr (Or.inr (Or.inr (Or.inr ⟨rfl, rfl, rfl⟩)))) (hb hby d9_14) hr
 ·
  show Q9 Z a0 a1 h0 n0 _ s₁.heap _
  rw [e0]
  exact ⟨rfl, N0, rfl⟩
theorem pn_3 : plainName "java/util/Optional" = true := by first | (simp [plainName, overriddenIn]; done) | decide +kernel
theorem d26_0 : decode jdk_32_method_2_code 0 = .ok (.aload_n 0, 1) := by decide +kernel
theorem d26_1 : decode jdk_32_method_2_code 1 = .ok (.invokespecial 7, 3) := by decide +kernel
theorem d26_4 : decode jdk_32_method_2_code 4 = .ok (.aload_n 0, 1) := by decide +kernel
theorem d26_5 : decode jdk_32_method_2_code 5 = .ok (.aload_n 1, 1) := by decide +kernel
theorem d26_6 : decode jdk_32_method_2_code 6 = .ok (.putfield 13, 3) := by decide +kernel
theorem d26_9 : decode jdk_32_method_2_code 9 = .ok (.return_, 1) := by decide +kernel
theorem ef_26 (m : MethodId) (x0 : Addr) (x1 : Addr) : entryFrame m #[(.ref x0), (.ref x1)] 2 = mkF m 0 #[vR x0, vR x1] [] := by first | (simp [entryFrame, mkF, argsToLocals, Value.category]; done) | rfl
def Q26 (Z : State) (a0 : Addr) (a1 : Addr) (w_value_a0 : Value) (h0 : Heap) (n0 : Nat) (v : Option Value) (h : Heap) (L : List Loc) : Prop := v = none ∧ Fr n0 L ∧ Keep h0 h [a0] ∧ Exa Z h a0 "java/util/Optional" ∧ Fld Z h a0 "java/util/Optional" "value" "Ljava/lang/Object;" (.ref a1)
set_option maxRecDepth 65536 in
set_option maxHeartbeats 40000000 in
theorem rm26 (l : Launch) (Z : State) (ar0 : Array Value) (hw : ∀ d ∈ tables_1, d.before ar0 Z = true) (ws : List Jvm.Cond) (a0 : Addr) (a1 : Addr) (w_value_a0 : Value) (h0 : Heap) (n0 : Nat) (Z0 : n0 ≤ h0.size) (E_a0 : Exa Z h0 a0 "java/util/Optional") (F_value_a0 : Fld Z h0 a0 "java/util/Optional" "value" "Ljava/lang/Object;" w_value_a0) (g_a0 : n0 ≤ a0) :
  MetFree l (⟨"java/util/Optional", "<init>", "(Ljava/lang/Object;)V"⟩ : MethodName) (head1 (Jvm.Cond.code (⟨"java/util/Optional", "<init>", "(Ljava/lang/Object;)V"⟩ : MethodName) jdk_32_method_2_code 2 none :: ws) ({ frames := 1, cells := 0, slots := 0, locals := 12 } : Room)) (fun a U => a = #[(.ref a0), (.ref a1)] ∧ Z.Warmed39 U.vm ∧ U.heap = h0) (fun _ _ _ _ _ => True) (fun _ U o U' => ∃ v L, o = .returned v ∧ Q26 Z a0 a1 w_value_a0 h0 n0 v U'.heap L ∧ FrameEnd U o U' L ({ frames := 1, cells := 0, slots := 0, locals := 12 } : Room).cells ({ frames := 1, cells := 0, slots := 0, locals := 12 } : Room).slots) := by
 refine MetFree.of_bodySF (plainFor_of_name pn_3) hisR ?_
 intro p e s m args below meth c s₁ Bd hml0 hP hK
 obtain ⟨rfl, hZ, hh⟩ := hP
 have hx := Bd.exec
 have hby := Bd.bytes
 have hml : c.maxLocals = 2 := hml0
 have hown : s.vm.findClass "java/util/Optional" = some m.cls := by have q := findClass_of_methodNamed Bd.named; exact q
 have hnm := (name_of_methodNamed Bd.named Bd.method).1
 have X0 : Stand p l e ({ frames := 1, cells := 0, slots := 0, locals := 12 } : Room) s m #[(.ref a0), (.ref a1)] below meth c s₁ [] 0 0 := Stand.of_body Bd
 have e0 : s₁.heap = h0 := by rw [← hh, Bd.state]; rfl
 have N0 := Fr.nil n0
 have pre0 : own_P p e below s₁ (mkF m 0 #[vR a0, vR a1] []) s₁ (entryFrame m #[(.ref a0), (.ref a1)] 2) := fun t k => castTop (ef_26 m a0 a1) k
 have pre49 : own_P p e below s₁ (mkF m 1 #[vR a0, vR a1] [(.ref a0)]) s₁ (entryFrame m #[(.ref a0), (.ref a1)] 2) := by
  intro t k
  refine pre0 t ?_
  refine XS.aloadN X0.here hx rfl (hb hby d26_0) rfl rfl ?_
  exact k
 obtain ⟨T50, X50, e50, st50⟩ := initO X0 hx hZ hown (own_w hw 147 rfl) (own_w hw 21 rfl) (own_w hw 22 rfl) e0 (g := (mkF m 1 #[vR a0, vR a1] [(.ref a0)])) rfl (by rw [hml]; rfl) rfl (hb hby d26_1) (by decide) (W := 0) (by show 2 * 0 + _ ≤ _; exact Nat.le_of_eq rfl) (by decide)
 have pre51 : own_P p e below T50 (mkF m 4 #[vR a0, vR a1] []) s₁ (entryFrame m #[(.ref a0), (.ref a1)] 2) := fun t k => pre49 t (st50 t k)
 have pre52 : own_P p e below T50 (mkF m 6 #[vR a0, vR a1] [(.ref a1), (.ref a0)]) s₁ (entryFrame m #[(.ref a0), (.ref a1)] 2) := by
  intro t k
  refine pre51 t ?_
  refine XS.aloadN X50.here hx rfl (hb hby d26_4) rfl rfl ?_
  refine XS.aloadN X50.here hx rfl (hb hby d26_5) rfl rfl ?_
  exact k
 obtain ⟨T53, h53, X53, e53, W53, st53⟩ := putF X50 hx hZ hown (host := "") (Or.inl (own_w hw 84 rfl)) Via.refl e50 F_value_a0 E_a0 (Or.inr ⟨(own_w hw 85 rfl), rfl, hnm⟩) (own_w hw 139 rfl) (ty := (.object "java/lang/Object")) (by decide) rfl rfl (g := (mkF m 6 #[vR a0, vR a1] [(.ref a1), (.ref a0)])) rfl rfl (hb hby d26_6)
 have Z53 : n0 ≤ h53.size := Nat.le_trans Z0 (Keep.of_wr W53).1
 have K53 : Keep h0 h53 [a0] := (Keep.refl h0 [a0]).wr W53 (Or.inl (List.mem_of_getElem? (i := 0) rfl))
 have N53 := Fr.snoc X53 N0 g_a0
 have Ef54 : Exa Z h53 a0 "java/util/Optional" := (E_a0).wr W53
 have Fw53 : Fld Z h53 a0 "java/util/Optional" "value" "Ljava/lang/Object;" (.ref a1) := (F_value_a0).same W53
 have pre55 : own_P p e below T53 (mkF m 9 #[vR a0, vR a1] []) s₁ (entryFrame m #[(.ref a0), (.ref a1)] 2) := fun t k => pre52 t (st53 t k)
 obtain ⟨fs, hr, hrun, hended, hW, hsame⟩ := X53.leave (v := none) (fun _ => rfl)
 refine ⟨_, _, pre55 _ ?_, hrun, hended, _, _, rfl, ?_, ⟨_, rfl⟩, hW, hsame.mono (by decide) (by decide)⟩
 ·
  exact X53.returnOut hx Bd.returns (hb hby d26_9) hr
 ·
  show Q26 Z a0 a1 w_value_a0 h0 n0 _ T53.heap _
  rw [e53]
  exact ⟨rfl, N53, K53, Ef54, Fw53⟩
theorem pd_3 : parseMethodDescriptor "(Ljava/lang/Object;)Ljava/lang/Object;" = some ⟨[(.object "java/lang/Object")], some (.object "java/lang/Object")⟩ := by decide +kernel
theorem pd_4 : parseMethodDescriptor "(Ljava/lang/Object;)V" = some ⟨[(.object "java/lang/Object")], none⟩ := by decide +kernel
theorem d24_0 : decode jdk_32_method_3_code 0 = .ok (.new 2, 3) := by decide +kernel
theorem d24_3 : decode jdk_32_method_3_code 3 = .ok (.dup, 1) := by decide +kernel
theorem d24_4 : decode jdk_32_method_3_code 4 = .ok (.aload_n 0, 1) := by decide +kernel
theorem d24_5 : decode jdk_32_method_3_code 5 = .ok (.invokestatic 17, 3) := by decide +kernel
theorem d24_8 : decode jdk_32_method_3_code 8 = .ok (.invokespecial 23, 3) := by decide +kernel
theorem d24_11 : decode jdk_32_method_3_code 11 = .ok (.areturn, 1) := by decide +kernel
theorem ef_24 (m : MethodId) (x0 : Addr) : entryFrame m #[(.ref x0)] 1 = mkF m 0 #[vR x0] [] := by first | (simp [entryFrame, mkF, argsToLocals, Value.category]; done) | rfl
def Q24 (Z : State) (a0 : Addr) (h0 : Heap) (n0 : Nat) (v : Option Value) (h : Heap) (L : List Loc) : Prop := ∃ (b : Addr), v = some (.ref b) ∧ Fr n0 L ∧ Keep h0 h [] ∧ h0.size ≤ b ∧ Exa Z h b "java/util/Optional" ∧ Fld Z h b "java/util/Optional" "value" "Ljava/lang/Object;" (.ref a0)
set_option maxRecDepth 65536 in
set_option maxHeartbeats 40000000 in
theorem rm24 (l : Launch) (Z : State) (ar0 : Array Value) (hw : ∀ d ∈ tables_1, d.before ar0 Z = true) (ws : List Jvm.Cond) (a0 : Addr) (h0 : Heap) (n0 : Nat) (Z0 : n0 ≤ h0.size) :
  MetFree l (⟨"java/util/Optional", "of", "(Ljava/lang/Object;)Ljava/util/Optional;"⟩ : MethodName) (head1 (Jvm.Cond.code (⟨"java/util/Optional", "of", "(Ljava/lang/Object;)Ljava/util/Optional;"⟩ : MethodName) jdk_32_method_3_code 1 (some (.object "java/util/Optional")) :: ws) ({ frames := 2, cells := 1, slots := 1, locals := 26 } : Room)) (fun a U => a = #[(.ref a0)] ∧ Z.Warmed39 U.vm ∧ U.heap = h0) (fun _ _ _ _ _ => True) (fun _ U o U' => ∃ v L, o = .returned v ∧ Q24 Z a0 h0 n0 v U'.heap L ∧ FrameEnd U o U' L ({ frames := 2, cells := 1, slots := 1, locals := 26 } : Room).cells ({ frames := 2, cells := 1, slots := 1, locals := 26 } : Room).slots) := by
 refine MetFree.of_bodySF (plainFor_of_name pn_3) hisR ?_
 intro p e s m args below meth c s₁ Bd hml0 hP hK
 obtain ⟨rfl, hZ, hh⟩ := hP
 have hx := Bd.exec
 have hby := Bd.bytes
 have hml : c.maxLocals = 1 := hml0
 have hown : s.vm.findClass "java/util/Optional" = some m.cls := by have q := findClass_of_methodNamed Bd.named; exact q
 have hnm := (name_of_methodNamed Bd.named Bd.method).1
 have X0 : Stand p l e ({ frames := 2, cells := 1, slots := 1, locals := 26 } : Room) s m #[(.ref a0)] below meth c s₁ [] 0 0 := Stand.of_body Bd
 have e0 : s₁.heap = h0 := by rw [← hh, Bd.state]; rfl
 have N0 := Fr.nil n0
 have pre0 : own_P p e below s₁ (mkF m 0 #[vR a0] []) s₁ (entryFrame m #[(.ref a0)] 1) := fun t k => castTop (ef_24 m a0) k
 obtain ⟨T56, h56, X56, e56, E56, A56, D56, -, st56⟩ := newO X0 hx hZ hown (own_w hw 138 rfl) (own_w hw 139 rfl) (own_w hw 29 rfl) e0 (g := (mkF m 0 #[vR a0] [])) rfl (hb hby d24_0) (by decide) (by decide)
 obtain ⟨b56, g56⟩ : ∃ z, z = h0.size := ⟨_, rfl⟩
 rw [← g56] at A56 D56 st56
 have g_b56 : n0 ≤ b56 := Nat.le_trans Z0 (Nat.le_of_eq g56.symm)
 have sz_b56 : h0.size ≤ b56 := Nat.le_trans (Keep.refl h0 []).1 (Nat.le_of_eq g56.symm)
 have Z56 : n0 ≤ h56.size := Nat.le_trans Z0 E56.1
 have K56 : Keep h0 h56 [] := (Keep.refl h0 []).ext E56
 have Fvalue_b56 : Fld Z h56 b56 "java/util/Optional" "value" "Ljava/lang/Object;" .null := D56 (Or.inr (own_w hw 85 rfl)) (ty := (.object "java/lang/Object")) (by decide)
 have pre57 : own_P p e below T56 (mkF m 3 #[vR a0] [(.ref b56)]) s₁ (entryFrame m #[(.ref a0)] 1) := fun t k => pre0 t (st56 t k)
 have pre58 : own_P p e below T56 (mkF m 5 #[vR a0] [(.ref a0), (.ref b56), (.ref b56)]) s₁ (entryFrame m #[(.ref a0)] 1) := by
  intro t k
  refine pre57 t ?_
  refine XS.dup X56.here hx rfl (hb hby d24_3) rfl rfl ?_
  refine XS.aloadN X56.here hx rfl (hb hby d24_4) rfl rfl ?_
  exact k
 obtain ⟨_, _, ⟨T59, L59, k59, n59⟩, -, X59, ⟨Lc59, hQ59, l59, y59, z59⟩, st59⟩ := Jvm.LawKit.callS X56 hx (y := (⟨"java/util/Objects", "requireNonNull", "(Ljava/lang/Object;)Ljava/lang/Object;"⟩ : MethodName)) hown (mvT hZ (own_w hw 140 rfl)) (mvT hZ (own_w hw 141 rfl)) (mvT hZ (own_w hw 51 rfl)) (mvT hZ (own_w hw 142 rfl)) (by decide) (backOf (W := 2) (rm25 l Z ar0 hw [] a0 h56 n0 Z56) hZ (own_w hw 142 rfl) (own_w hw 51 rfl) (by decide) (by decide)) (g := (mkF m 5 #[vR a0] [(.ref a0), (.ref b56), (.ref b56)])) rfl (by rw [hml]; rfl) (argsL := [(.ref a0)]) (rest := [(.ref b56), (.ref b56)]) (lenOf pd_3 rfl) rfl (by show 2 * 0 + _ ≤ _; exact Nat.le_of_eq rfl) (hb hby d24_5) (fun _ _ => ⟨rfl, e56, (by decide : 1 + 0 ≤ _), (by decide : 1 + 0 ≤ _)⟩)
 dsimp only [Pt.U, Pt.locs, Pt.cells, Pt.slots] at X59 l59 y59 z59 st59 hQ59
 subst l59 y59 z59
 obtain ⟨rfl, N59q, e59⟩ := hQ59
 have N59 := Fr.app N0 N59q
 have pre60 : own_P p e below T59 (mkF m 8 #[vR a0] [(.ref a0), (.ref b56), (.ref b56)]) s₁ (entryFrame m #[(.ref a0)] 1) := fun t k => pre58 t (st59 t k)
 obtain ⟨_, _, ⟨T61, L61, k61, n61⟩, -, X61, ⟨Lc61, hQ61, l61, y61, z61⟩, st61⟩ := X59.specialBack hx (y := (⟨"java/util/Optional", "<init>", "(Ljava/lang/Object;)V"⟩ : MethodName)) rfl hown (mvT hZ (own_w hw 143 rfl)) (mvT hZ (own_w hw 144 rfl)) (mvT hZ (own_w hw 146 rfl)) (by decide) (backOf (W := 1) (rm26 l Z ar0 hw [] b56 a0 .null h56 n0 Z56 A56 Fvalue_b56 g_b56) hZ (own_w hw 146 rfl) (own_w hw 29 rfl) (by decide) (by decide)) (g := (mkF m 8 #[vR a0] [(.ref a0), (.ref b56), (.ref b56)])) rfl (by rw [hml]; rfl) (Steps.refl _) (a := b56) (argsL := [(.ref a0)]) (rest := [(.ref b56)]) (lenOf pd_4 rfl) rfl (by show 2 * 0 + _ ≤ _; exact Nat.le_of_eq rfl) (hb hby d24_8) (fun _ _ => ⟨rfl, e59, (by decide : 1 + 0 ≤ _), (by decide : 1 + 0 ≤ _)⟩)
 dsimp only [Pt.U, Pt.locs, Pt.cells, Pt.slots] at X61 l61 y61 z61 st61 hQ61
 subst l61 y61 z61
 obtain ⟨h61, e61⟩ : ∃ h, T61.heap = h := ⟨_, rfl⟩
 rw [e61] at hQ61
 obtain ⟨rfl, N61q, K61q, Q61_0, Q61_1⟩ := hQ61
 have N61 := Fr.app N59 N61q
 have Z61 : n0 ≤ h61.size := Nat.le_trans Z56 K61q.1
 have K61 : Keep h0 h61 [] := K56.trans K61q (fun x hx => by cases List.mem_singleton.mp hx; exact Or.inr sz_b56)
 have Ef62 : Exa Z h61 b56 "java/util/Optional" := (A56).keep K61q
 have pre63 : own_P p e below T61 (mkF m 11 #[vR a0] [(.ref b56)]) s₁ (entryFrame m #[(.ref a0)] 1) := fun t k => pre60 t (st61.trans k)
 obtain ⟨fs, hr, hrun, hended, hW, hsame⟩ := X61.leave (v := some (.ref b56)) (fun h => by rw [Bd.returns] at h; cases h)
 refine ⟨_, _, pre63 _ ?_, hrun, hended, _, _, rfl, ?_, ⟨_, rfl⟩, hW, hsame.mono (by decide) (by decide)⟩
 ·
  exact retOut X61 hx Bd.returns rfl (Or.inr (Or.inr (Or.inr (Or.inr ⟨rfl, rfl, rfl⟩)))) (hb hby d24_11) hr
 ·
  show Q24 Z a0 h0 n0 _ T61.heap _
  rw [e61]
  exact ⟨b56, rfl, N61, K61, sz_b56, Q61_0, Q61_1⟩
theorem d6_0 : decode jdk_32_method_1_code 0 = .ok (.getstatic 1, 3) := by decide +kernel
theorem d6_3 : decode jdk_32_method_1_code 3 = .ok (.astore_n 0, 1) := by decide +kernel
theorem d6_4 : decode jdk_32_method_1_code 4 = .ok (.aload_n 0, 1) := by decide +kernel
theorem d6_5 : decode jdk_32_method_1_code 5 = .ok (.areturn, 1) := by decide +kernel
theorem ef_6 (m : MethodId)  : entryFrame m #[] 1 = mkF m 0 #[.unset] [] := by first | (simp [entryFrame, mkF, argsToLocals, Value.category]; done) | rfl
def Q6 (Z : State) (s_EMPTY : Addr) (h0 : Heap) (n0 : Nat) (v : Option Value) (h : Heap) (L : List Loc) : Prop := v = some (.ref s_EMPTY) ∧ Fr n0 L ∧ h = h0
set_option maxRecDepth 65536 in
set_option maxHeartbeats 40000000 in
theorem rm6 (l : Launch) (Z : State) (ar0 : Array Value) (hw : ∀ d ∈ tables_1, d.before ar0 Z = true) (ws : List Jvm.Cond) (s_EMPTY : Addr) (h0 : Heap) (n0 : Nat) (Z0 : n0 ≤ h0.size) (S_EMPTY : Sta Z h0 "java/util/Optional" "EMPTY" "Ljava/util/Optional;" (.ref s_EMPTY)) :
  MetFree l (⟨"java/util/Optional", "empty", "()Ljava/util/Optional;"⟩ : MethodName) (head1 (Jvm.Cond.code (⟨"java/util/Optional", "empty", "()Ljava/util/Optional;"⟩ : MethodName) jdk_32_method_1_code 1 (some (.object "java/util/Optional")) :: ws) ({ frames := 0, cells := 0, slots := 0, locals := 0 } : Room)) (fun a U => a = #[] ∧ Z.Warmed39 U.vm ∧ U.heap = h0) (fun _ _ _ _ _ => True) (fun _ U o U' => ∃ v L, o = .returned v ∧ Q6 Z s_EMPTY h0 n0 v U'.heap L ∧ FrameEnd U o U' L ({ frames := 0, cells := 0, slots := 0, locals := 0 } : Room).cells ({ frames := 0, cells := 0, slots := 0, locals := 0 } : Room).slots) := by
 refine MetFree.of_bodySF (plainFor_of_name pn_3) hisR ?_
 intro p e s m args below meth c s₁ Bd hml0 hP hK
 obtain ⟨rfl, hZ, hh⟩ := hP
 have hx := Bd.exec
 have hby := Bd.bytes
 have hml : c.maxLocals = 1 := hml0
 have hown : s.vm.findClass "java/util/Optional" = some m.cls := by have q := findClass_of_methodNamed Bd.named; exact q
 have hnm := (name_of_methodNamed Bd.named Bd.method).1
 have X0 : Stand p l e ({ frames := 0, cells := 0, slots := 0, locals := 0 } : Room) s m #[] below meth c s₁ [] 0 0 := Stand.of_body Bd
 have e0 : s₁.heap = h0 := by rw [← hh, Bd.state]; rfl
 have N0 := Fr.nil n0
 have pre0 : own_P p e below s₁ (mkF m 0 #[.unset] []) s₁ (entryFrame m #[] 1) := fun t k => castTop (ef_6 m ) k
 obtain ⟨T64, X64, e64, st64⟩ := getS2 X0 hx hZ hown (host := "") (Or.inl (own_w hw 31 rfl)) Via.refl e0 S_EMPTY (g := (mkF m 0 #[.unset] [])) rfl (hb hby d6_0)
 have pre65 : own_P p e below T64 (mkF m 3 #[.unset] [(.ref s_EMPTY)]) s₁ (entryFrame m #[] 1) := fun t k => pre0 t (st64 t k)
 obtain ⟨fs, hr, hrun, hended, hW, hsame⟩ := X64.leave (v := some (.ref s_EMPTY)) (fun h => by rw [Bd.returns] at h; cases h)
 refine ⟨_, _, pre65 _ ?_, hrun, hended, _, _, rfl, ?_, ⟨_, rfl⟩, hW, hsame.mono (by decide) (by decide)⟩
 ·
  refine XS.astoreN X64.here hx rfl (hb hby d6_3) rfl rfl (l' := #[vR s_EMPTY]) rfl ?_
  refine XS.aloadN X64.here hx rfl (hb hby d6_4) rfl rfl ?_
  exact retOut X64 hx Bd.returns rfl (Or.inr (Or.inr (Or.inr (Or.inr ⟨rfl, rfl, rfl⟩)))) (hb hby d6_5) hr
 ·
  show Q6 Z s_EMPTY h0 n0 _ T64.heap _
  rw [e64]
  exact ⟨rfl, N0, rfl⟩
theorem d11_0 : decode jdk_32_method_15_code 0 = .ok (.aload_n 0, 1) := by decide +kernel
theorem d11_1 : decode jdk_32_method_15_code 1 = .ok (.getfield 13, 3) := by decide +kernel
theorem d11_4 : decode jdk_32_method_15_code 4 = .ok (.ifnull 10, 3) := by decide +kernel
theorem d11_7 : decode jdk_32_method_15_code 7 = .ok (.aload_n 0, 1) := by decide +kernel
theorem d11_8 : decode jdk_32_method_15_code 8 = .ok (.getfield 13, 3) := by decide +kernel
theorem d11_11 : decode jdk_32_method_15_code 11 = .ok (.goto 4, 3) := by decide +kernel
theorem d11_15 : decode jdk_32_method_15_code 15 = .ok (.areturn, 1) := by decide +kernel
theorem ef_11 (m : MethodId) (x0 : Addr) (x1 : Addr) : entryFrame m #[(.ref x0), (.ref x1)] 2 = mkF m 0 #[vR x0, vR x1] [] := by first | (simp [entryFrame, mkF, argsToLocals, Value.category]; done) | rfl
def Q11_y (Z : State) (a0 : Addr) (a1 : Addr) (r1 : Addr) (h0 : Heap) (n0 : Nat) (v : Option Value) (h : Heap) (L : List Loc) : Prop := v = some (.ref r1) ∧ Fr n0 L ∧ h = h0
set_option maxRecDepth 65536 in
set_option maxHeartbeats 40000000 in
theorem rm11_y (l : Launch) (Z : State) (ar0 : Array Value) (hw : ∀ d ∈ tables_1, d.before ar0 Z = true) (ws : List Jvm.Cond) (a0 : Addr) (a1 : Addr) (r1 : Addr) (h0 : Heap) (n0 : Nat) (Z0 : n0 ≤ h0.size) (F_value_a0 : Fld Z h0 a0 "java/util/Optional" "value" "Ljava/lang/Object;" (.ref r1)) :
  MetFree l (⟨"java/util/Optional", "orElse", "(Ljava/lang/Object;)Ljava/lang/Object;"⟩ : MethodName) (head1 (Jvm.Cond.code (⟨"java/util/Optional", "orElse", "(Ljava/lang/Object;)Ljava/lang/Object;"⟩ : MethodName) jdk_32_method_15_code 2 (some (.object "java/lang/Object")) :: ws) ({ frames := 0, cells := 0, slots := 0, locals := 0 } : Room)) (fun a U => a = #[(.ref a0), (.ref a1)] ∧ Z.Warmed39 U.vm ∧ U.heap = h0) (fun _ _ _ _ _ => True) (fun _ U o U' => ∃ v L, o = .returned v ∧ Q11_y Z a0 a1 r1 h0 n0 v U'.heap L ∧ FrameEnd U o U' L ({ frames := 0, cells := 0, slots := 0, locals := 0 } : Room).cells ({ frames := 0, cells := 0, slots := 0, locals := 0 } : Room).slots) := by
 refine MetFree.of_bodySF (plainFor_of_name pn_3) hisR ?_
 intro p e s m args below meth c s₁ Bd hml0 hP hK
 obtain ⟨rfl, hZ, hh⟩ := hP
 have hx := Bd.exec
 have hby := Bd.bytes
 have hml : c.maxLocals = 2 := hml0
 have hown : s.vm.findClass "java/util/Optional" = some m.cls := by have q := findClass_of_methodNamed Bd.named; exact q
 have hnm := (name_of_methodNamed Bd.named Bd.method).1
 have X0 : Stand p l e ({ frames := 0, cells := 0, slots := 0, locals := 0 } : Room) s m #[(.ref a0), (.ref a1)] below meth c s₁ [] 0 0 := Stand.of_body Bd
 have e0 : s₁.heap = h0 := by rw [← hh, Bd.state]; rfl
 have N0 := Fr.nil n0
 have pre0 : own_P p e below s₁ (mkF m 0 #[vR a0, vR a1] []) s₁ (entryFrame m #[(.ref a0), (.ref a1)] 2) := fun t k => castTop (ef_11 m a0 a1) k
 have pre66 : own_P p e below s₁ (mkF m 1 #[vR a0, vR a1] [(.ref a0)]) s₁ (entryFrame m #[(.ref a0), (.ref a1)] 2) := by
  intro t k
  refine pre0 t ?_
  refine XS.aloadN X0.here hx rfl (hb hby d11_0) rfl rfl ?_
  exact k
 obtain ⟨T67, X67, e67, st67⟩ := getF X0 hx hZ hown (host := "") (Or.inl (own_w hw 84 rfl)) Via.refl e0 F_value_a0 (g := (mkF m 1 #[vR a0, vR a1] [(.ref a0)])) rfl rfl (hb hby d11_1)
 have pre68 : own_P p e below T67 (mkF m 4 #[vR a0, vR a1] [(.ref r1)]) s₁ (entryFrame m #[(.ref a0), (.ref a1)] 2) := fun t k => pre66 t (st67 t k)
 have pre69 : own_P p e below T67 (mkF m 8 #[vR a0, vR a1] [(.ref a0)]) s₁ (entryFrame m #[(.ref a0), (.ref a1)] 2) := by
  intro t k
  refine pre68 t ?_
  refine XS.ifnullNo X67.here hx rfl (hb hby d11_4) rfl ?_
  refine XS.aloadN X67.here hx rfl (hb hby d11_7) rfl rfl ?_
  exact k
 obtain ⟨T70, X70, e70, st70⟩ := getF X67 hx hZ hown (host := "") (Or.inl (own_w hw 84 rfl)) Via.refl e67 F_value_a0 (g := (mkF m 8 #[vR a0, vR a1] [(.ref a0)])) rfl rfl (hb hby d11_8)
 have pre71 : own_P p e below T70 (mkF m 11 #[vR a0, vR a1] [(.ref r1)]) s₁ (entryFrame m #[(.ref a0), (.ref a1)] 2) := fun t k => pre69 t (st70 t k)
 obtain ⟨fs, hr, hrun, hended, hW, hsame⟩ := X70.leave (v := some (.ref r1)) (fun h => by rw [Bd.returns] at h; cases h)
 refine ⟨_, _, pre71 _ ?_, hrun, hended, _, _, rfl, ?_, ⟨_, rfl⟩, hW, hsame.mono (by decide) (by decide)⟩
 ·
  refine XS.goto X70.here hx rfl (pc0 := 11) (pc' := 15) rfl (hb hby d11_11) (by decide) (by decide) ?_
  exact retOut X70 hx Bd.returns rfl (Or.inr (Or.inr (Or.inr (Or.inr ⟨rfl, rfl, rfl⟩)))) (hb hby d11_15) hr
 ·
  show Q11_y Z a0 a1 r1 h0 n0 _ T70.heap _
  rw [e70]
  exact ⟨rfl, N0, rfl⟩
theorem d11_14 : decode jdk_32_method_15_code 14 = .ok (.aload_n 1, 1) := by decide +kernel
def Q11_n (Z : State) (a0 : Addr) (a1 : Addr) (h0 : Heap) (n0 : Nat) (v : Option Value) (h : Heap) (L : List Loc) : Prop := v = some (.ref a1) ∧ Fr n0 L ∧ h = h0
set_option maxRecDepth 65536 in
set_option maxHeartbeats 40000000 in
theorem rm11_n (l : Launch) (Z : State) (ar0 : Array Value) (hw : ∀ d ∈ tables_1, d.before ar0 Z = true) (ws : List Jvm.Cond) (a0 : Addr) (a1 : Addr) (h0 : Heap) (n0 : Nat) (Z0 : n0 ≤ h0.size) (F_value_a0 : Fld Z h0 a0 "java/util/Optional" "value" "Ljava/lang/Object;" .null) :
  MetFree l (⟨"java/util/Optional", "orElse", "(Ljava/lang/Object;)Ljava/lang/Object;"⟩ : MethodName) (head1 (Jvm.Cond.code (⟨"java/util/Optional", "orElse", "(Ljava/lang/Object;)Ljava/lang/Object;"⟩ : MethodName) jdk_32_method_15_code 2 (some (.object "java/lang/Object")) :: ws) ({ frames := 0, cells := 0, slots := 0, locals := 0 } : Room)) (fun a U => a = #[(.ref a0), (.ref a1)] ∧ Z.Warmed39 U.vm ∧ U.heap = h0) (fun _ _ _ _ _ => True) (fun _ U o U' => ∃ v L, o = .returned v ∧ Q11_n Z a0 a1 h0 n0 v U'.heap L ∧ FrameEnd U o U' L ({ frames := 0, cells := 0, slots := 0, locals := 0 } : Room).cells ({ frames := 0, cells := 0, slots := 0, locals := 0 } : Room).slots) := by
 refine MetFree.of_bodySF (plainFor_of_name pn_3) hisR ?_
 intro p e s m args below meth c s₁ Bd hml0 hP hK
 obtain ⟨rfl, hZ, hh⟩ := hP
 have hx := Bd.exec
 have hby := Bd.bytes
 have hml : c.maxLocals = 2 := hml0
 have hown : s.vm.findClass "java/util/Optional" = some m.cls := by have q := findClass_of_methodNamed Bd.named; exact q
 have hnm := (name_of_methodNamed Bd.named Bd.method).1
 have X0 : Stand p l e ({ frames := 0, cells := 0, slots := 0, locals := 0 } : Room) s m #[(.ref a0), (.ref a1)] below meth c s₁ [] 0 0 := Stand.of_body Bd
 have e0 : s₁.heap = h0 := by rw [← hh, Bd.state]; rfl
 have N0 := Fr.nil n0
 have pre0 : own_P p e below s₁ (mkF m 0 #[vR a0, vR a1] []) s₁ (entryFrame m #[(.ref a0), (.ref a1)] 2) := fun t k => castTop (ef_11 m a0 a1) k
 have pre72 : own_P p e below s₁ (mkF m 1 #[vR a0, vR a1] [(.ref a0)]) s₁ (entryFrame m #[(.ref a0), (.ref a1)] 2) := by
  intro t k
  refine pre0 t ?_
  refine XS.aloadN X0.here hx rfl (hb hby d11_0) rfl rfl ?_
  exact k
 obtain ⟨T73, X73, e73, st73⟩ := getF X0 hx hZ hown (host := "") (Or.inl (own_w hw 84 rfl)) Via.refl e0 F_value_a0 (g := (mkF m 1 #[vR a0, vR a1] [(.ref a0)])) rfl rfl (hb hby d11_1)
 have pre74 : own_P p e below T73 (mkF m 4 #[vR a0, vR a1] [.null]) s₁ (entryFrame m #[(.ref a0), (.ref a1)] 2) := fun t k => pre72 t (st73 t k)
 obtain ⟨fs, hr, hrun, hended, hW, hsame⟩ := X73.leave (v := some (.ref a1)) (fun h => by rw [Bd.returns] at h; cases h)
 refine ⟨_, _, pre74 _ ?_, hrun, hended, _, _, rfl, ?_, ⟨_, rfl⟩, hW, hsame.mono (by decide) (by decide)⟩
 ·
  refine XS.ifnullYes X73.here hx rfl (pc0 := 4) (pc' := 14) rfl (hb hby d11_4) rfl (by decide) (by decide) ?_
  refine XS.aloadN X73.here hx rfl (hb hby d11_14) rfl rfl ?_
  exact retOut X73 hx Bd.returns rfl (Or.inr (Or.inr (Or.inr (Or.inr ⟨rfl, rfl, rfl⟩)))) (hb hby d11_15) hr
 ·
  show Q11_n Z a0 a1 h0 n0 _ T73.heap _
  rw [e73]
  exact ⟨rfl, N0, rfl⟩
theorem pn_4 : plainName "java/lang/Record" = true := by first | (simp [plainName, overriddenIn]; done) | decide +kernel
theorem d8_0 : decode jdk_30_method_1_code 0 = .ok (.aload_n 0, 1) := by decide +kernel
theorem d8_1 : decode jdk_30_method_1_code 1 = .ok (.invokespecial 1, 3) := by decide +kernel
theorem d8_4 : decode jdk_30_method_1_code 4 = .ok (.return_, 1) := by decide +kernel
theorem ef_8 (m : MethodId) (x0 : Addr) : entryFrame m #[(.ref x0)] 1 = mkF m 0 #[vR x0] [] := by first | (simp [entryFrame, mkF, argsToLocals, Value.category]; done) | rfl
def Q8 (Z : State) (a0 : Addr) (h0 : Heap) (n0 : Nat) (v : Option Value) (h : Heap) (L : List Loc) : Prop := v = none ∧ Fr n0 L ∧ h = h0
set_option maxRecDepth 65536 in
set_option maxHeartbeats 40000000 in
theorem rm8 (l : Launch) (Z : State) (ar0 : Array Value) (hw : ∀ d ∈ tables_1, d.before ar0 Z = true) (ws : List Jvm.Cond) (a0 : Addr) (h0 : Heap) (n0 : Nat) (Z0 : n0 ≤ h0.size) :
  MetFree l (⟨"java/lang/Record", "<init>", "()V"⟩ : MethodName) (head1 (Jvm.Cond.code (⟨"java/lang/Record", "<init>", "()V"⟩ : MethodName) jdk_30_method_1_code 1 none :: ws) ({ frames := 1, cells := 0, slots := 0, locals := 12 } : Room)) (fun a U => a = #[(.ref a0)] ∧ Z.Warmed39 U.vm ∧ U.heap = h0) (fun _ _ _ _ _ => True) (fun _ U o U' => ∃ v L, o = .returned v ∧ Q8 Z a0 h0 n0 v U'.heap L ∧ FrameEnd U o U' L ({ frames := 1, cells := 0, slots := 0, locals := 12 } : Room).cells ({ frames := 1, cells := 0, slots := 0, locals := 12 } : Room).slots) := by
 refine MetFree.of_bodySF (plainFor_of_name pn_4) hisR ?_
 intro p e s m args below meth c s₁ Bd hml0 hP hK
 obtain ⟨rfl, hZ, hh⟩ := hP
 have hx := Bd.exec
 have hby := Bd.bytes
 have hml : c.maxLocals = 1 := hml0
 have hown : s.vm.findClass "java/lang/Record" = some m.cls := by have q := findClass_of_methodNamed Bd.named; exact q
 have hnm := (name_of_methodNamed Bd.named Bd.method).1
 have X0 : Stand p l e ({ frames := 1, cells := 0, slots := 0, locals := 12 } : Room) s m #[(.ref a0)] below meth c s₁ [] 0 0 := Stand.of_body Bd
 have e0 : s₁.heap = h0 := by rw [← hh, Bd.state]; rfl
 have N0 := Fr.nil n0
 have pre0 : own_P p e below s₁ (mkF m 0 #[vR a0] []) s₁ (entryFrame m #[(.ref a0)] 1) := fun t k => castTop (ef_8 m a0) k
 have pre75 : own_P p e below s₁ (mkF m 1 #[vR a0] [(.ref a0)]) s₁ (entryFrame m #[(.ref a0)] 1) := by
  intro t k
  refine pre0 t ?_
  refine XS.aloadN X0.here hx rfl (hb hby d8_0) rfl rfl ?_
  exact k
 obtain ⟨T76, X76, e76, st76⟩ := initO X0 hx hZ hown (own_w hw 47 rfl) (own_w hw 21 rfl) (own_w hw 22 rfl) e0 (g := (mkF m 1 #[vR a0] [(.ref a0)])) rfl (by rw [hml]; rfl) rfl (hb hby d8_1) (by decide) (W := 0) (by show 2 * 0 + _ ≤ _; exact Nat.le_of_eq rfl) (by decide)
 have pre77 : own_P p e below T76 (mkF m 4 #[vR a0] []) s₁ (entryFrame m #[(.ref a0)] 1) := fun t k => pre75 t (st76 t k)
 obtain ⟨fs, hr, hrun, hended, hW, hsame⟩ := X76.leave (v := none) (fun _ => rfl)
 refine ⟨_, _, pre77 _ ?_, hrun, hended, _, _, rfl, ?_, ⟨_, rfl⟩, hW, hsame.mono (by decide) (by decide)⟩
 ·
  exact X76.returnOut hx Bd.returns (hb hby d8_4) hr
 ·
  show Q8 Z a0 h0 n0 _ T76.heap _
  rw [e76]
  exact ⟨rfl, N0, rfl⟩
theorem pd_5 : parseMethodDescriptor "()V" = some ⟨[], none⟩ := by decide +kernel
theorem pd_6 : parseMethodDescriptor "(Ljava/lang/Object;Ljava/lang/String;)Ljava/lang/Object;" = some ⟨[(.object "java/lang/Object"), (.object "java/lang/String")], some (.object "java/lang/Object")⟩ := by decide +kernel
theorem pn_5 : plainName own_GU = true := by first | (simp [plainName, overriddenIn]; done) | decide +kernel
theorem d7_0 : decode prog_33_method_1_code 0 = .ok (.aload_n 0, 1) := by decide +kernel
theorem d7_1 : decode prog_33_method_1_code 1 = .ok (.invokespecial 1, 3) := by decide +kernel
theorem d7_4 : decode prog_33_method_1_code 4 = .ok (.aload_n 1, 1) := by decide +kernel
theorem d7_5 : decode prog_33_method_1_code 5 = .ok (.ldc 7, 2) := by decide +kernel
theorem d7_7 : decode prog_33_method_1_code 7 = .ok (.invokestatic 9, 3) := by decide +kernel
theorem d7_10 : decode prog_33_method_1_code 10 = .ok (.pop, 1) := by decide +kernel
theorem d7_11 : decode prog_33_method_1_code 11 = .ok (.aload_n 2, 1) := by decide +kernel
theorem d7_12 : decode prog_33_method_1_code 12 = .ok (.ldc 15, 2) := by decide +kernel
theorem d7_14 : decode prog_33_method_1_code 14 = .ok (.invokestatic 9, 3) := by decide +kernel
theorem d7_17 : decode prog_33_method_1_code 17 = .ok (.pop, 1) := by decide +kernel
theorem d7_18 : decode prog_33_method_1_code 18 = .ok (.aload_n 3, 1) := by decide +kernel
theorem d7_19 : decode prog_33_method_1_code 19 = .ok (.ldc 17, 2) := by decide +kernel
theorem d7_21 : decode prog_33_method_1_code 21 = .ok (.invokestatic 9, 3) := by decide +kernel
theorem d7_24 : decode prog_33_method_1_code 24 = .ok (.pop, 1) := by decide +kernel
theorem d7_25 : decode prog_33_method_1_code 25 = .ok (.aload 4, 2) := by decide +kernel
theorem d7_27 : decode prog_33_method_1_code 27 = .ok (.ldc 19, 2) := by decide +kernel
theorem d7_29 : decode prog_33_method_1_code 29 = .ok (.invokestatic 9, 3) := by decide +kernel
theorem d7_32 : decode prog_33_method_1_code 32 = .ok (.pop, 1) := by decide +kernel
theorem d7_33 : decode prog_33_method_1_code 33 = .ok (.aload 5, 2) := by decide +kernel
theorem d7_35 : decode prog_33_method_1_code 35 = .ok (.ldc 21, 2) := by decide +kernel
theorem d7_37 : decode prog_33_method_1_code 37 = .ok (.invokestatic 9, 3) := by decide +kernel
theorem d7_40 : decode prog_33_method_1_code 40 = .ok (.pop, 1) := by decide +kernel
theorem d7_41 : decode prog_33_method_1_code 41 = .ok (.aload 6, 2) := by decide +kernel
theorem d7_43 : decode prog_33_method_1_code 43 = .ok (.ldc 23, 2) := by decide +kernel
theorem d7_45 : decode prog_33_method_1_code 45 = .ok (.invokestatic 9, 3) := by decide +kernel
theorem d7_48 : decode prog_33_method_1_code 48 = .ok (.pop, 1) := by decide +kernel
theorem d7_49 : decode prog_33_method_1_code 49 = .ok (.aload 7, 2) := by decide +kernel
theorem d7_51 : decode prog_33_method_1_code 51 = .ok (.ldc 25, 2) := by decide +kernel
theorem d7_53 : decode prog_33_method_1_code 53 = .ok (.invokestatic 9, 3) := by decide +kernel
theorem d7_56 : decode prog_33_method_1_code 56 = .ok (.pop, 1) := by decide +kernel
theorem d7_57 : decode prog_33_method_1_code 57 = .ok (.aload_n 0, 1) := by decide +kernel
theorem d7_58 : decode prog_33_method_1_code 58 = .ok (.aload_n 1, 1) := by decide +kernel
theorem d7_59 : decode prog_33_method_1_code 59 = .ok (.putfield 27, 3) := by decide +kernel
theorem d7_62 : decode prog_33_method_1_code 62 = .ok (.aload_n 0, 1) := by decide +kernel
theorem d7_63 : decode prog_33_method_1_code 63 = .ok (.aload_n 2, 1) := by decide +kernel
theorem d7_64 : decode prog_33_method_1_code 64 = .ok (.putfield 32, 3) := by decide +kernel
theorem d7_67 : decode prog_33_method_1_code 67 = .ok (.aload_n 0, 1) := by decide +kernel
theorem d7_68 : decode prog_33_method_1_code 68 = .ok (.aload_n 3, 1) := by decide +kernel
theorem d7_69 : decode prog_33_method_1_code 69 = .ok (.putfield 34, 3) := by decide +kernel
theorem d7_72 : decode prog_33_method_1_code 72 = .ok (.aload_n 0, 1) := by decide +kernel
theorem d7_73 : decode prog_33_method_1_code 73 = .ok (.aload 4, 2) := by decide +kernel
theorem d7_75 : decode prog_33_method_1_code 75 = .ok (.putfield 37, 3) := by decide +kernel
theorem d7_78 : decode prog_33_method_1_code 78 = .ok (.aload_n 0, 1) := by decide +kernel
theorem d7_79 : decode prog_33_method_1_code 79 = .ok (.aload 5, 2) := by decide +kernel
theorem d7_81 : decode prog_33_method_1_code 81 = .ok (.putfield 39, 3) := by decide +kernel
theorem d7_84 : decode prog_33_method_1_code 84 = .ok (.aload_n 0, 1) := by decide +kernel
theorem d7_85 : decode prog_33_method_1_code 85 = .ok (.aload 6, 2) := by decide +kernel
theorem d7_87 : decode prog_33_method_1_code 87 = .ok (.putfield 41, 3) := by decide +kernel
theorem d7_90 : decode prog_33_method_1_code 90 = .ok (.aload_n 0, 1) := by decide +kernel
theorem d7_91 : decode prog_33_method_1_code 91 = .ok (.aload 7, 2) := by decide +kernel
theorem d7_93 : decode prog_33_method_1_code 93 = .ok (.putfield 43, 3) := by decide +kernel
theorem d7_96 : decode prog_33_method_1_code 96 = .ok (.return_, 1) := by decide +kernel
theorem ef_7 (m : MethodId) (x0 : Addr) (x1 : Addr) (x2 : Addr) (x3 : Addr) (x4 : Addr) (x5 : Addr) (x6 : Addr) (x7 : Addr) : entryFrame m #[(.ref x0), (.ref x1), (.ref x2), (.ref x3), (.ref x4), (.ref x5), (.ref x6), (.ref x7)] 8 = mkF m 0 #[vR x0, vR x1, vR x2, vR x3, vR x4, vR x5, vR x6, vR x7] [] := by first | (simp [entryFrame, mkF, argsToLocals, Value.category]; done) | rfl
def Q7 (Z : State) (a0 : Addr) (a1 : Addr) (a2 : Addr) (a3 : Addr) (a4 : Addr) (a5 : Addr) (a6 : Addr) (a7 : Addr) (w_text_a0 : Value) (w_host_a0 : Value) (w_port_a0 : Value) (w_type_a0 : Value) (w_selector_a0 : Value) (w_search_a0 : Value) (w_gopherPlus_a0 : Value) (h0 : Heap) (n0 : Nat) (v : Option Value) (h : Heap) (L : List Loc) : Prop := v = none ∧ Fr n0 L ∧ Keep h0 h [a0] ∧ Exa Z h a0 own_GU ∧ Fld Z h a0 own_GU "text" "Ljava/lang/String;" (.ref a1) ∧ Fld Z h a0 own_GU "host" "Ljava/lang/String;" (.ref a2) ∧ Fld Z h a0 own_GU "port" "Ljava/util/Optional;" (.ref a3) ∧ Fld Z h a0 own_GU "type" "Ljava/util/Optional;" (.ref a4) ∧ Fld Z h a0 own_GU "selector" "Ljava/lang/String;" (.ref a5) ∧ Fld Z h a0 own_GU "search" "Ljava/util/Optional;" (.ref a6) ∧ Fld Z h a0 own_GU "gopherPlus" "Ljava/util/Optional;" (.ref a7)
set_option maxRecDepth 65536 in
set_option maxHeartbeats 40000000 in
theorem rm7 (l : Launch) (Z : State) (ar0 : Array Value) (hw : ∀ d ∈ tables_1, d.before ar0 Z = true) (ws : List Jvm.Cond) (a0 : Addr) (a1 : Addr) (a2 : Addr) (a3 : Addr) (a4 : Addr) (a5 : Addr) (a6 : Addr) (a7 : Addr) (w_text_a0 : Value) (w_host_a0 : Value) (w_port_a0 : Value) (w_type_a0 : Value) (w_selector_a0 : Value) (w_search_a0 : Value) (w_gopherPlus_a0 : Value) (h0 : Heap) (n0 : Nat) (Z0 : n0 ≤ h0.size) (E_a0 : Exa Z h0 a0 own_GU) (F_text_a0 : Fld Z h0 a0 own_GU "text" "Ljava/lang/String;" w_text_a0) (F_host_a0 : Fld Z h0 a0 own_GU "host" "Ljava/lang/String;" w_host_a0) (F_port_a0 : Fld Z h0 a0 own_GU "port" "Ljava/util/Optional;" w_port_a0) (F_type_a0 : Fld Z h0 a0 own_GU "type" "Ljava/util/Optional;" w_type_a0) (F_selector_a0 : Fld Z h0 a0 own_GU "selector" "Ljava/lang/String;" w_selector_a0) (F_search_a0 : Fld Z h0 a0 own_GU "search" "Ljava/util/Optional;" w_search_a0) (F_gopherPlus_a0 : Fld Z h0 a0 own_GU "gopherPlus" "Ljava/util/Optional;" w_gopherPlus_a0) (g_a0 : n0 ≤ a0) :
  MetFree l (⟨own_GU, "<init>", "(Ljava/lang/String;Ljava/lang/String;Ljava/util/Optional;Ljava/util/Optional;Ljava/lang/String;Ljava/util/Optional;Ljava/util/Optional;)V"⟩ : MethodName) (head1 (Jvm.Cond.code (⟨own_GU, "<init>", "(Ljava/lang/String;Ljava/lang/String;Ljava/util/Optional;Ljava/util/Optional;Ljava/lang/String;Ljava/util/Optional;Ljava/util/Optional;)V"⟩ : MethodName) prog_33_method_1_code 8 none :: ws) ({ frames := 2, cells := 14, slots := 188, locals := 24 } : Room)) (fun a U => a = #[(.ref a0), (.ref a1), (.ref a2), (.ref a3), (.ref a4), (.ref a5), (.ref a6), (.ref a7)] ∧ Z.Warmed39 U.vm ∧ U.heap = h0 ∧ CHv Z own_EL U.vm h0) (fun _ _ _ _ _ => True) (fun _ U o U' => ∃ v L, o = .returned v ∧ Q7 Z a0 a1 a2 a3 a4 a5 a6 a7 w_text_a0 w_host_a0 w_port_a0 w_type_a0 w_selector_a0 w_search_a0 w_gopherPlus_a0 h0 n0 v U'.heap L ∧ CHr Z own_EL U.vm U.heap U'.vm U'.heap ∧ ReturnedEndW U o U' L ({ frames := 2, cells := 14, slots := 188, locals := 24 } : Room).cells ({ frames := 2, cells := 14, slots := 188, locals := 24 } : Room).slots) := by
 refine MetFree.of_bodySF (plainFor_of_name pn_5) hisR ?_
 intro p e s m args below meth c s₁ Bd hml0 hP hK
 obtain ⟨rfl, hZ, hh, hC0⟩ := hP
 have hx := Bd.exec
 have hby := Bd.bytes
 have hml : c.maxLocals = 8 := hml0
 have hown : s.vm.findClass own_GU = some m.cls := by have q := findClass_of_methodNamed Bd.named; exact q
 have hnm := (name_of_methodNamed Bd.named Bd.method).1
 have X0 : Stand p l e ({ frames := 2, cells := 14, slots := 188, locals := 24 } : Room) s m #[(.ref a0), (.ref a1), (.ref a2), (.ref a3), (.ref a4), (.ref a5), (.ref a6), (.ref a7)] below meth c s₁ [] 0 0 := Stand.of_body Bd
 have e0 : s₁.heap = h0 := by rw [← hh, Bd.state]; rfl
 have N0 := Fr.nil n0
 have hS0 : s.Since s.vm 0 := own_since0 s
 have hCR0 : CHr Z own_EL s.vm h0 s.vm h0 := CHr.refl hC0
 have hEL : EW Z ar0 own_EL := own_EW hw
 have pre0 : own_P p e below s₁ (mkF m 0 #[vR a0, vR a1, vR a2, vR a3, vR a4, vR a5, vR a6, vR a7] []) s₁ (entryFrame m #[(.ref a0), (.ref a1), (.ref a2), (.ref a3), (.ref a4), (.ref a5), (.ref a6), (.ref a7)] 8) := fun t k => castTop (ef_7 m a0 a1 a2 a3 a4 a5 a6 a7) k
 have pre78 : own_P p e below s₁ (mkF m 1 #[vR a0, vR a1, vR a2, vR a3, vR a4, vR a5, vR a6, vR a7] [(.ref a0)]) s₁ (entryFrame m #[(.ref a0), (.ref a1), (.ref a2), (.ref a3), (.ref a4), (.ref a5), (.ref a6), (.ref a7)] 8) := by
  intro t k
  refine pre0 t ?_
  refine XS.aloadN X0.here hx rfl (hb hby d7_0) rfl rfl ?_
  exact k
 obtain ⟨_, _, ⟨T79, L79, k79, n79⟩, -, X79, ⟨Lc79, hQ79, l79, y79, z79⟩, st79⟩ := X0.specialBack hx (y := (⟨"java/lang/Record", "<init>", "()V"⟩ : MethodName)) rfl hown (mvT hZ (own_w hw 42 rfl)) (mvT hZ (own_w hw 43 rfl)) (mvT hZ (own_w hw 46 rfl)) (by decide) (backOf (W := 0) (rm8 l Z ar0 hw [] a0 h0 n0 Z0) hZ (own_w hw 46 rfl) (own_w hw 45 rfl) (by decide) (by decide)) (g := (mkF m 1 #[vR a0, vR a1, vR a2, vR a3, vR a4, vR a5, vR a6, vR a7] [(.ref a0)])) rfl (by rw [hml]; rfl) (Steps.refl _) (a := a0) (argsL := []) (rest := []) (lenOf pd_5 rfl) rfl (by show 2 * 0 + _ ≤ _; exact Nat.le_of_eq rfl) (hb hby d7_1) (fun _ _ => ⟨rfl, e0, (by decide : 0 + 0 ≤ _), (by decide : 0 + 0 ≤ _)⟩)
 dsimp only [Pt.U, Pt.locs, Pt.cells, Pt.slots] at X79 l79 y79 z79 st79 hQ79
 subst l79 y79 z79
 obtain ⟨rfl, N79q, e79⟩ := hQ79
 have N79 := Fr.app N0 N79q
 have pre80 : own_P p e below T79 (mkF m 4 #[vR a0, vR a1, vR a2, vR a3, vR a4, vR a5, vR a6, vR a7] []) s₁ (entryFrame m #[(.ref a0), (.ref a1), (.ref a2), (.ref a3), (.ref a4), (.ref a5), (.ref a6), (.ref a7)] 8) := fun t k => pre78 t (st79.trans k)
 have pre81 : own_P p e below T79 (mkF m 5 #[vR a0, vR a1, vR a2, vR a3, vR a4, vR a5, vR a6, vR a7] [(.ref a1)]) s₁ (entryFrame m #[(.ref a0), (.ref a1), (.ref a2), (.ref a3), (.ref a4), (.ref a5), (.ref a6), (.ref a7)] 8) := by
  intro t k
  refine pre80 t ?_
  refine XS.aloadN X79.here hx rfl (hb hby d7_4) rfl rfl ?_
  exact k
 obtain ⟨a82, T82, h82, k82, X82, e82, E82, hS82, hk82, hZ82, ho82, hC82, -, st82⟩ := ldcOH (s := s) (vm0 := s.vm) X79 hx hZ hown (own_w hw 48 rfl) (own_strW hw) e79 hS0 (Nat.zero_le _) hEL hCR0.1 (g := (mkF m 5 #[vR a0, vR a1, vR a2, vR a3, vR a4, vR a5, vR a6, vR a7] [(.ref a1)])) rfl (hb hby d7_5) (n := 16) (by decide) (by decide) (by decide) (by decide)
 have CR82 := hCR0.trans hC82
 have Z82 : n0 ≤ h82.size := Nat.le_trans Z0 E82.1
 have K82 : Keep h0 h82 [a0] := (Keep.refl h0 [a0]).ext E82
 have Ef83 : Exa Z h82 a0 own_GU := (E_a0).ext E82
 have Ff84 : Fld Z h82 a0 own_GU "text" "Ljava/lang/String;" w_text_a0 := (F_text_a0).ext E82
 have Ff85 : Fld Z h82 a0 own_GU "host" "Ljava/lang/String;" w_host_a0 := (F_host_a0).ext E82
 have Ff86 : Fld Z h82 a0 own_GU "port" "Ljava/util/Optional;" w_port_a0 := (F_port_a0).ext E82
 have Ff87 : Fld Z h82 a0 own_GU "type" "Ljava/util/Optional;" w_type_a0 := (F_type_a0).ext E82
 have Ff88 : Fld Z h82 a0 own_GU "selector" "Ljava/lang/String;" w_selector_a0 := (F_selector_a0).ext E82
 have Ff89 : Fld Z h82 a0 own_GU "search" "Ljava/util/Optional;" w_search_a0 := (F_search_a0).ext E82
 have Ff90 : Fld Z h82 a0 own_GU "gopherPlus" "Ljava/util/Optional;" w_gopherPlus_a0 := (F_gopherPlus_a0).ext E82
 have pre91 : own_P p e below T82 (mkF m 7 #[vR a0, vR a1, vR a2, vR a3, vR a4, vR a5, vR a6, vR a7] [(.ref a82), (.ref a1)]) s₁ (entryFrame m #[(.ref a0), (.ref a1), (.ref a2), (.ref a3), (.ref a4), (.ref a5), (.ref a6), (.ref a7)] 8) := fun t k => pre81 t (st82 t k)
 obtain ⟨_, _, ⟨T92, L92, k92, n92⟩, -, X92, ⟨Lc92, hQ92, l92, y92, z92⟩, st92⟩ := Jvm.LawKit.callS X82 hx (y := (⟨"java/util/Objects", "requireNonNull", "(Ljava/lang/Object;Ljava/lang/String;)Ljava/lang/Object;"⟩ : MethodName)) ho82 (mvT hZ82 (own_w hw 49 rfl)) (mvT hZ82 (own_w hw 50 rfl)) (mvT hZ82 (own_w hw 51 rfl)) (mvT hZ82 (own_w hw 52 rfl)) (by decide) (backOf (W := 0) (rm9 l Z ar0 hw [] a1 a82 h82 n0 Z82) hZ82 (own_w hw 52 rfl) (own_w hw 51 rfl) (by decide) (by decide)) (g := (mkF m 7 #[vR a0, vR a1, vR a2, vR a3, vR a4, vR a5, vR a6, vR a7] [(.ref a82), (.ref a1)])) rfl (by rw [hml]; rfl) (argsL := [(.ref a1), (.ref a82)]) (rest := []) (lenOf pd_6 rfl) rfl (by show 2 * 0 + _ ≤ _; exact Nat.le_of_eq rfl) (hb hby d7_7) (fun _ _ => ⟨rfl, e82, (by decide : 2 + 0 ≤ _), (by decide : 20 + 0 ≤ _)⟩)
 dsimp only [Pt.U, Pt.locs, Pt.cells, Pt.slots] at X92 l92 y92 z92 st92 hQ92
 subst l92 y92 z92
 obtain ⟨rfl, N92q, e92⟩ := hQ92
 have N92 := Fr.app N79 N92q
 have pre93 : own_P p e below T92 (mkF m 10 #[vR a0, vR a1, vR a2, vR a3, vR a4, vR a5, vR a6, vR a7] [(.ref a1)]) s₁ (entryFrame m #[(.ref a0), (.ref a1), (.ref a2), (.ref a3), (.ref a4), (.ref a5), (.ref a6), (.ref a7)] 8) := fun t k => pre91 t (st92 t k)
 have pre94 : own_P p e below T92 (mkF m 12 #[vR a0, vR a1, vR a2, vR a3, vR a4, vR a5, vR a6, vR a7] [(.ref a2)]) s₁ (entryFrame m #[(.ref a0), (.ref a1), (.ref a2), (.ref a3), (.ref a4), (.ref a5), (.ref a6), (.ref a7)] 8) := by
  intro t k
  refine pre93 t ?_
  refine XS.pop X92.here hx rfl (hb hby d7_10) rfl rfl ?_
  refine XS.aloadN X92.here hx rfl (hb hby d7_11) rfl rfl ?_
  exact k
 obtain ⟨a95, T95, h95, k95, X95, e95, E95, hS95, hk95, hZ95, ho95, hC95, -, st95⟩ := ldcOH (s := s) (vm0 := T82.vm) X92 hx hZ82 ho82 (own_w hw 53 rfl) (own_strW hw) e92 hS82 hk82 hEL CR82.1 (g := (mkF m 12 #[vR a0, vR a1, vR a2, vR a3, vR a4, vR a5, vR a6, vR a7] [(.ref a2)])) rfl (hb hby d7_12) (n := 16) (by decide) (by decide) (by decide) (by decide)
 have CR95 := CR82.trans hC95
 have Z95 : n0 ≤ h95.size := Nat.le_trans Z82 E95.1
 have K95 : Keep h0 h95 [a0] := K82.ext E95
 have Ef96 : Exa Z h95 a0 own_GU := (Ef83).ext E95
 have Ff97 : Fld Z h95 a0 own_GU "text" "Ljava/lang/String;" w_text_a0 := (Ff84).ext E95
 have Ff98 : Fld Z h95 a0 own_GU "host" "Ljava/lang/String;" w_host_a0 := (Ff85).ext E95
 have Ff99 : Fld Z h95 a0 own_GU "port" "Ljava/util/Optional;" w_port_a0 := (Ff86).ext E95
 have Ff100 : Fld Z h95 a0 own_GU "type" "Ljava/util/Optional;" w_type_a0 := (Ff87).ext E95
 have Ff101 : Fld Z h95 a0 own_GU "selector" "Ljava/lang/String;" w_selector_a0 := (Ff88).ext E95
 have Ff102 : Fld Z h95 a0 own_GU "search" "Ljava/util/Optional;" w_search_a0 := (Ff89).ext E95
 have Ff103 : Fld Z h95 a0 own_GU "gopherPlus" "Ljava/util/Optional;" w_gopherPlus_a0 := (Ff90).ext E95
 have pre104 : own_P p e below T95 (mkF m 14 #[vR a0, vR a1, vR a2, vR a3, vR a4, vR a5, vR a6, vR a7] [(.ref a95), (.ref a2)]) s₁ (entryFrame m #[(.ref a0), (.ref a1), (.ref a2), (.ref a3), (.ref a4), (.ref a5), (.ref a6), (.ref a7)] 8) := fun t k => pre94 t (st95 t k)
 obtain ⟨_, _, ⟨T105, L105, k105, n105⟩, -, X105, ⟨Lc105, hQ105, l105, y105, z105⟩, st105⟩ := Jvm.LawKit.callS X95 hx (y := (⟨"java/util/Objects", "requireNonNull", "(Ljava/lang/Object;Ljava/lang/String;)Ljava/lang/Object;"⟩ : MethodName)) ho95 (mvT hZ95 (own_w hw 49 rfl)) (mvT hZ95 (own_w hw 50 rfl)) (mvT hZ95 (own_w hw 51 rfl)) (mvT hZ95 (own_w hw 52 rfl)) (by decide) (backOf (W := 0) (rm9 l Z ar0 hw [] a2 a95 h95 n0 Z95) hZ95 (own_w hw 52 rfl) (own_w hw 51 rfl) (by decide) (by decide)) (g := (mkF m 14 #[vR a0, vR a1, vR a2, vR a3, vR a4, vR a5, vR a6, vR a7] [(.ref a95), (.ref a2)])) rfl (by rw [hml]; rfl) (argsL := [(.ref a2), (.ref a95)]) (rest := []) (lenOf pd_6 rfl) rfl (by show 2 * 0 + _ ≤ _; exact Nat.le_of_eq rfl) (hb hby d7_14) (fun _ _ => ⟨rfl, e95, (by decide : 4 + 0 ≤ _), (by decide : 40 + 0 ≤ _)⟩)
 dsimp only [Pt.U, Pt.locs, Pt.cells, Pt.slots] at X105 l105 y105 z105 st105 hQ105
 subst l105 y105 z105
 obtain ⟨rfl, N105q, e105⟩ := hQ105
 have N105 := Fr.app N92 N105q
 have pre106 : own_P p e below T105 (mkF m 17 #[vR a0, vR a1, vR a2, vR a3, vR a4, vR a5, vR a6, vR a7] [(.ref a2)]) s₁ (entryFrame m #[(.ref a0), (.ref a1), (.ref a2), (.ref a3), (.ref a4), (.ref a5), (.ref a6), (.ref a7)] 8) := fun t k => pre104 t (st105 t k)
 have pre107 : own_P p e below T105 (mkF m 19 #[vR a0, vR a1, vR a2, vR a3, vR a4, vR a5, vR a6, vR a7] [(.ref a3)]) s₁ (entryFrame m #[(.ref a0), (.ref a1), (.ref a2), (.ref a3), (.ref a4), (.ref a5), (.ref a6), (.ref a7)] 8) := by
  intro t k
  refine pre106 t ?_
  refine XS.pop X105.here hx rfl (hb hby d7_17) rfl rfl ?_
  refine XS.aloadN X105.here hx rfl (hb hby d7_18) rfl rfl ?_
  exact k
 obtain ⟨a108, T108, h108, k108, X108, e108, E108, hS108, hk108, hZ108, ho108, hC108, -, st108⟩ := ldcOH (s := s) (vm0 := T95.vm) X105 hx hZ95 ho95 (own_w hw 54 rfl) (own_strW hw) e105 hS95 hk95 hEL CR95.1 (g := (mkF m 19 #[vR a0, vR a1, vR a2, vR a3, vR a4, vR a5, vR a6, vR a7] [(.ref a3)])) rfl (hb hby d7_19) (n := 16) (by decide) (by decide) (by decide) (by decide)
 have CR108 := CR95.trans hC108
 have Z108 : n0 ≤ h108.size := Nat.le_trans Z95 E108.1
 have K108 : Keep h0 h108 [a0] := K95.ext E108
 have Ef109 : Exa Z h108 a0 own_GU := (Ef96).ext E108
 have Ff110 : Fld Z h108 a0 own_GU "text" "Ljava/lang/String;" w_text_a0 := (Ff97).ext E108
 have Ff111 : Fld Z h108 a0 own_GU "host" "Ljava/lang/String;" w_host_a0 := (Ff98).ext E108
 have Ff112 : Fld Z h108 a0 own_GU "port" "Ljava/util/Optional;" w_port_a0 := (Ff99).ext E108
 have Ff113 : Fld Z h108 a0 own_GU "type" "Ljava/util/Optional;" w_type_a0 := (Ff100).ext E108
 have Ff114 : Fld Z h108 a0 own_GU "selector" "Ljava/lang/String;" w_selector_a0 := (Ff101).ext E108
 have Ff115 : Fld Z h108 a0 own_GU "search" "Ljava/util/Optional;" w_search_a0 := (Ff102).ext E108
 have Ff116 : Fld Z h108 a0 own_GU "gopherPlus" "Ljava/util/Optional;" w_gopherPlus_a0 := (Ff103).ext E108
 have pre117 : own_P p e below T108 (mkF m 21 #[vR a0, vR a1, vR a2, vR a3, vR a4, vR a5, vR a6, vR a7] [(.ref a108), (.ref a3)]) s₁ (entryFrame m #[(.ref a0), (.ref a1), (.ref a2), (.ref a3), (.ref a4), (.ref a5), (.ref a6), (.ref a7)] 8) := fun t k => pre107 t (st108 t k)
 obtain ⟨_, _, ⟨T118, L118, k118, n118⟩, -, X118, ⟨Lc118, hQ118, l118, y118, z118⟩, st118⟩ := Jvm.LawKit.callS X108 hx (y := (⟨"java/util/Objects", "requireNonNull", "(Ljava/lang/Object;Ljava/lang/String;)Ljava/lang/Object;"⟩ : MethodName)) ho108 (mvT hZ108 (own_w hw 49 rfl)) (mvT hZ108 (own_w hw 50 rfl)) (mvT hZ108 (own_w hw 51 rfl)) (mvT hZ108 (own_w hw 52 rfl)) (by decide) (backOf (W := 0) (rm9 l Z ar0 hw [] a3 a108 h108 n0 Z108) hZ108 (own_w hw 52 rfl) (own_w hw 51 rfl) (by decide) (by decide)) (g := (mkF m 21 #[vR a0, vR a1, vR a2, vR a3, vR a4, vR a5, vR a6, vR a7] [(.ref a108), (.ref a3)])) rfl (by rw [hml]; rfl) (argsL := [(.ref a3), (.ref a108)]) (rest := []) (lenOf pd_6 rfl) rfl (by show 2 * 0 + _ ≤ _; exact Nat.le_of_eq rfl) (hb hby d7_21) (fun _ _ => ⟨rfl, e108, (by decide : 6 + 0 ≤ _), (by decide : 60 + 0 ≤ _)⟩)
 dsimp only [Pt.U, Pt.locs, Pt.cells, Pt.slots] at X118 l118 y118 z118 st118 hQ118
 subst l118 y118 z118
 obtain ⟨rfl, N118q, e118⟩ := hQ118
 have N118 := Fr.app N105 N118q
 have pre119 : own_P p e below T118 (mkF m 24 #[vR a0, vR a1, vR a2, vR a3, vR a4, vR a5, vR a6, vR a7] [(.ref a3)]) s₁ (entryFrame m #[(.ref a0), (.ref a1), (.ref a2), (.ref a3), (.ref a4), (.ref a5), (.ref a6), (.ref a7)] 8) := fun t k => pre117 t (st118 t k)
 have pre120 : own_P p e below T118 (mkF m 27 #[vR a0, vR a1, vR a2, vR a3, vR a4, vR a5, vR a6, vR a7] [(.ref a4)]) s₁ (entryFrame m #[(.ref a0), (.ref a1), (.ref a2), (.ref a3), (.ref a4), (.ref a5), (.ref a6), (.ref a7)] 8) := by
  intro t k
  refine pre119 t ?_
  refine XS.pop X118.here hx rfl (hb hby d7_24) rfl rfl ?_
  refine XS.aload X118.here hx rfl (hb hby d7_25) rfl rfl ?_
  exact k
 obtain ⟨a121, T121, h121, k121, X121, e121, E121, hS121, hk121, hZ121, ho121, hC121, -, st121⟩ := ldcOH (s := s) (vm0 := T108.vm) X118 hx hZ108 ho108 (own_w hw 55 rfl) (own_strW hw) e118 hS108 hk108 hEL CR108.1 (g := (mkF m 27 #[vR a0, vR a1, vR a2, vR a3, vR a4, vR a5, vR a6, vR a7] [(.ref a4)])) rfl (hb hby d7_27) (n := 16) (by decide) (by decide) (by decide) (by decide)
 have CR121 := CR108.trans hC121
 have Z121 : n0 ≤ h121.size := Nat.le_trans Z108 E121.1
 have K121 : Keep h0 h121 [a0] := K108.ext E121
 have Ef122 : Exa Z h121 a0 own_GU := (Ef109).ext E121
 have Ff123 : Fld Z h121 a0 own_GU "text" "Ljava/lang/String;" w_text_a0 := (Ff110).ext E121
 have Ff124 : Fld Z h121 a0 own_GU "host" "Ljava/lang/String;" w_host_a0 := (Ff111).ext E121
 have Ff125 : Fld Z h121 a0 own_GU "port" "Ljava/util/Optional;" w_port_a0 := (Ff112).ext E121
 have Ff126 : Fld Z h121 a0 own_GU "type" "Ljava/util/Optional;" w_type_a0 := (Ff113).ext E121
 have Ff127 : Fld Z h121 a0 own_GU "selector" "Ljava/lang/String;" w_selector_a0 := (Ff114).ext E121
 have Ff128 : Fld Z h121 a0 own_GU "search" "Ljava/util/Optional;" w_search_a0 := (Ff115).ext E121
 have Ff129 : Fld Z h121 a0 own_GU "gopherPlus" "Ljava/util/Optional;" w_gopherPlus_a0 := (Ff116).ext E121
 have pre130 : own_P p e below T121 (mkF m 29 #[vR a0, vR a1, vR a2, vR a3, vR a4, vR a5, vR a6, vR a7] [(.ref a121), (.ref a4)]) s₁ (entryFrame m #[(.ref a0), (.ref a1), (.ref a2), (.ref a3), (.ref a4), (.ref a5), (.ref a6), (.ref a7)] 8) := fun t k => pre120 t (st121 t k)
 obtain ⟨_, _, ⟨T131, L131, k131, n131⟩, -, X131, ⟨Lc131, hQ131, l131, y131, z131⟩, st131⟩ := Jvm.LawKit.callS X121 hx (y := (⟨"java/util/Objects", "requireNonNull", "(Ljava/lang/Object;Ljava/lang/String;)Ljava/lang/Object;"⟩ : MethodName)) ho121 (mvT hZ121 (own_w hw 49 rfl)) (mvT hZ121 (own_w hw 50 rfl)) (mvT hZ121 (own_w hw 51 rfl)) (mvT hZ121 (own_w hw 52 rfl)) (by decide) (backOf (W := 0) (rm9 l Z ar0 hw [] a4 a121 h121 n0 Z121) hZ121 (own_w hw 52 rfl) (own_w hw 51 rfl) (by decide) (by decide)) (g := (mkF m 29 #[vR a0, vR a1, vR a2, vR a3, vR a4, vR a5, vR a6, vR a7] [(.ref a121), (.ref a4)])) rfl (by rw [hml]; rfl) (argsL := [(.ref a4), (.ref a121)]) (rest := []) (lenOf pd_6 rfl) rfl (by show 2 * 0 + _ ≤ _; exact Nat.le_of_eq rfl) (hb hby d7_29) (fun _ _ => ⟨rfl, e121, (by decide : 8 + 0 ≤ _), (by decide : 80 + 0 ≤ _)⟩)
 dsimp only [Pt.U, Pt.locs, Pt.cells, Pt.slots] at X131 l131 y131 z131 st131 hQ131
 subst l131 y131 z131
 obtain ⟨rfl, N131q, e131⟩ := hQ131
 have N131 := Fr.app N118 N131q
 have pre132 : own_P p e below T131 (mkF m 32 #[vR a0, vR a1, vR a2, vR a3, vR a4, vR a5, vR a6, vR a7] [(.ref a4)]) s₁ (entryFrame m #[(.ref a0), (.ref a1), (.ref a2), (.ref a3), (.ref a4), (.ref a5), (.ref a6), (.ref a7)] 8) := fun t k => pre130 t (st131 t k)
 have pre133 : own_P p e below T131 (mkF m 35 #[vR a0, vR a1, vR a2, vR a3, vR a4, vR a5, vR a6, vR a7] [(.ref a5)]) s₁ (entryFrame m #[(.ref a0), (.ref a1), (.ref a2), (.ref a3), (.ref a4), (.ref a5), (.ref a6), (.ref a7)] 8) := by
  intro t k
  refine pre132 t ?_
  refine XS.pop X131.here hx rfl (hb hby d7_32) rfl rfl ?_
  refine XS.aload X131.here hx rfl (hb hby d7_33) rfl rfl ?_
  exact k
 obtain ⟨a134, T134, h134, k134, X134, e134, E134, hS134, hk134, hZ134, ho134, hC134, -, st134⟩ := ldcOH (s := s) (vm0 := T121.vm) X131 hx hZ121 ho121 (own_w hw 56 rfl) (own_strW hw) e131 hS121 hk121 hEL CR121.1 (g := (mkF m 35 #[vR a0, vR a1, vR a2, vR a3, vR a4, vR a5, vR a6, vR a7] [(.ref a5)])) rfl (hb hby d7_35) (n := 32) (by decide) (by decide) (by decide) (by decide)
 have CR134 := CR121.trans hC134
 have Z134 : n0 ≤ h134.size := Nat.le_trans Z121 E134.1
 have K134 : Keep h0 h134 [a0] := K121.ext E134
 have Ef135 : Exa Z h134 a0 own_GU := (Ef122).ext E134
 have Ff136 : Fld Z h134 a0 own_GU "text" "Ljava/lang/String;" w_text_a0 := (Ff123).ext E134
 have Ff137 : Fld Z h134 a0 own_GU "host" "Ljava/lang/String;" w_host_a0 := (Ff124).ext E134
 have Ff138 : Fld Z h134 a0 own_GU "port" "Ljava/util/Optional;" w_port_a0 := (Ff125).ext E134
 have Ff139 : Fld Z h134 a0 own_GU "type" "Ljava/util/Optional;" w_type_a0 := (Ff126).ext E134
 have Ff140 : Fld Z h134 a0 own_GU "selector" "Ljava/lang/String;" w_selector_a0 := (Ff127).ext E134
 have Ff141 : Fld Z h134 a0 own_GU "search" "Ljava/util/Optional;" w_search_a0 := (Ff128).ext E134
 have Ff142 : Fld Z h134 a0 own_GU "gopherPlus" "Ljava/util/Optional;" w_gopherPlus_a0 := (Ff129).ext E134
 have pre143 : own_P p e below T134 (mkF m 37 #[vR a0, vR a1, vR a2, vR a3, vR a4, vR a5, vR a6, vR a7] [(.ref a134), (.ref a5)]) s₁ (entryFrame m #[(.ref a0), (.ref a1), (.ref a2), (.ref a3), (.ref a4), (.ref a5), (.ref a6), (.ref a7)] 8) := fun t k => pre133 t (st134 t k)
 obtain ⟨_, _, ⟨T144, L144, k144, n144⟩, -, X144, ⟨Lc144, hQ144, l144, y144, z144⟩, st144⟩ := Jvm.LawKit.callS X134 hx (y := (⟨"java/util/Objects", "requireNonNull", "(Ljava/lang/Object;Ljava/lang/String;)Ljava/lang/Object;"⟩ : MethodName)) ho134 (mvT hZ134 (own_w hw 49 rfl)) (mvT hZ134 (own_w hw 50 rfl)) (mvT hZ134 (own_w hw 51 rfl)) (mvT hZ134 (own_w hw 52 rfl)) (by decide) (backOf (W := 0) (rm9 l Z ar0 hw [] a5 a134 h134 n0 Z134) hZ134 (own_w hw 52 rfl) (own_w hw 51 rfl) (by decide) (by decide)) (g := (mkF m 37 #[vR a0, vR a1, vR a2, vR a3, vR a4, vR a5, vR a6, vR a7] [(.ref a134), (.ref a5)])) rfl (by rw [hml]; rfl) (argsL := [(.ref a5), (.ref a134)]) (rest := []) (lenOf pd_6 rfl) rfl (by show 2 * 0 + _ ≤ _; exact Nat.le_of_eq rfl) (hb hby d7_37) (fun _ _ => ⟨rfl, e134, (by decide : 10 + 0 ≤ _), (by decide : 116 + 0 ≤ _)⟩)
 dsimp only [Pt.U, Pt.locs, Pt.cells, Pt.slots] at X144 l144 y144 z144 st144 hQ144
 subst l144 y144 z144
 obtain ⟨rfl, N144q, e144⟩ := hQ144
 have N144 := Fr.app N131 N144q
 have pre145 : own_P p e below T144 (mkF m 40 #[vR a0, vR a1, vR a2, vR a3, vR a4, vR a5, vR a6, vR a7] [(.ref a5)]) s₁ (entryFrame m #[(.ref a0), (.ref a1), (.ref a2), (.ref a3), (.ref a4), (.ref a5), (.ref a6), (.ref a7)] 8) := fun t k => pre143 t (st144 t k)
 have pre146 : own_P p e below T144 (mkF m 43 #[vR a0, vR a1, vR a2, vR a3, vR a4, vR a5, vR a6, vR a7] [(.ref a6)]) s₁ (entryFrame m #[(.ref a0), (.ref a1), (.ref a2), (.ref a3), (.ref a4), (.ref a5), (.ref a6), (.ref a7)] 8) := by
  intro t k
  refine pre145 t ?_
  refine XS.pop X144.here hx rfl (hb hby d7_40) rfl rfl ?_
  refine XS.aload X144.here hx rfl (hb hby d7_41) rfl rfl ?_
  exact k
 obtain ⟨a147, T147, h147, k147, X147, e147, E147, hS147, hk147, hZ147, ho147, hC147, -, st147⟩ := ldcOH (s := s) (vm0 := T134.vm) X144 hx hZ134 ho134 (own_w hw 57 rfl) (own_strW hw) e144 hS134 hk134 hEL CR134.1 (g := (mkF m 43 #[vR a0, vR a1, vR a2, vR a3, vR a4, vR a5, vR a6, vR a7] [(.ref a6)])) rfl (hb hby d7_43) (n := 24) (by decide) (by decide) (by decide) (by decide)
 have CR147 := CR134.trans hC147
 have Z147 : n0 ≤ h147.size := Nat.le_trans Z134 E147.1
 have K147 : Keep h0 h147 [a0] := K134.ext E147
 have Ef148 : Exa Z h147 a0 own_GU := (Ef135).ext E147
 have Ff149 : Fld Z h147 a0 own_GU "text" "Ljava/lang/String;" w_text_a0 := (Ff136).ext E147
 have Ff150 : Fld Z h147 a0 own_GU "host" "Ljava/lang/String;" w_host_a0 := (Ff137).ext E147
 have Ff151 : Fld Z h147 a0 own_GU "port" "Ljava/util/Optional;" w_port_a0 := (Ff138).ext E147
 have Ff152 : Fld Z h147 a0 own_GU "type" "Ljava/util/Optional;" w_type_a0 := (Ff139).ext E147
 have Ff153 : Fld Z h147 a0 own_GU "selector" "Ljava/lang/String;" w_selector_a0 := (Ff140).ext E147
 have Ff154 : Fld Z h147 a0 own_GU "search" "Ljava/util/Optional;" w_search_a0 := (Ff141).ext E147
 have Ff155 : Fld Z h147 a0 own_GU "gopherPlus" "Ljava/util/Optional;" w_gopherPlus_a0 := (Ff142).ext E147
 have pre156 : own_P p e below T147 (mkF m 45 #[vR a0, vR a1, vR a2, vR a3, vR a4, vR a5, vR a6, vR a7] [(.ref a147), (.ref a6)]) s₁ (entryFrame m #[(.ref a0), (.ref a1), (.ref a2), (.ref a3), (.ref a4), (.ref a5), (.ref a6), (.ref a7)] 8) := fun t k => pre146 t (st147 t k)
 obtain ⟨_, _, ⟨T157, L157, k157, n157⟩, -, X157, ⟨Lc157, hQ157, l157, y157, z157⟩, st157⟩ := Jvm.LawKit.callS X147 hx (y := (⟨"java/util/Objects", "requireNonNull", "(Ljava/lang/Object;Ljava/lang/String;)Ljava/lang/Object;"⟩ : MethodName)) ho147 (mvT hZ147 (own_w hw 49 rfl)) (mvT hZ147 (own_w hw 50 rfl)) (mvT hZ147 (own_w hw 51 rfl)) (mvT hZ147 (own_w hw 52 rfl)) (by decide) (backOf (W := 0) (rm9 l Z ar0 hw [] a6 a147 h147 n0 Z147) hZ147 (own_w hw 52 rfl) (own_w hw 51 rfl) (by decide) (by decide)) (g := (mkF m 45 #[vR a0, vR a1, vR a2, vR a3, vR a4, vR a5, vR a6, vR a7] [(.ref a147), (.ref a6)])) rfl (by rw [hml]; rfl) (argsL := [(.ref a6), (.ref a147)]) (rest := []) (lenOf pd_6 rfl) rfl (by show 2 * 0 + _ ≤ _; exact Nat.le_of_eq rfl) (hb hby d7_45) (fun _ _ => ⟨rfl, e147, (by decide : 12 + 0 ≤ _), (by decide : 144 + 0 ≤ _)⟩)
 dsimp only [Pt.U, Pt.locs, Pt.cells, Pt.slots] at X157 l157 y157 z157 st157 hQ157
 subst l157 y157 z157
 obtain ⟨rfl, N157q, e157⟩ := hQ157
 have N157 := Fr.app N144 N157q
 have pre158 : own_P p e below T157 (mkF m 48 #[vR a0, vR a1, vR a2, vR a3, vR a4, vR a5, vR a6, vR a7] [(.ref a6)]) s₁ (entryFrame m #[(.ref a0), (.ref a1), (.ref a2), (.ref a3), (.ref a4), (.ref a5), (.ref a6), (.ref a7)] 8) := fun t k => pre156 t (st157 t k)
 have pre159 : own_P p e below T157 (mkF m 51 #[vR a0, vR a1, vR a2, vR a3, vR a4, vR a5, vR a6, vR a7] [(.ref a7)]) s₁ (entryFrame m #[(.ref a0), (.ref a1), (.ref a2), (.ref a3), (.ref a4), (.ref a5), (.ref a6), (.ref a7)] 8) := by
  intro t k
  refine pre158 t ?_
  refine XS.pop X157.here hx rfl (hb hby d7_48) rfl rfl ?_
  refine XS.aload X157.here hx rfl (hb hby d7_49) rfl rfl ?_
  exact k
 obtain ⟨a160, T160, h160, k160, X160, e160, E160, hS160, hk160, hZ160, ho160, hC160, -, st160⟩ := ldcOH (s := s) (vm0 := T147.vm) X157 hx hZ147 ho147 (own_w hw 58 rfl) (own_strW hw) e157 hS147 hk147 hEL CR147.1 (g := (mkF m 51 #[vR a0, vR a1, vR a2, vR a3, vR a4, vR a5, vR a6, vR a7] [(.ref a7)])) rfl (hb hby d7_51) (n := 40) (by decide) (by decide) (by decide) (by decide)
 have CR160 := CR147.trans hC160
 have Z160 : n0 ≤ h160.size := Nat.le_trans Z147 E160.1
 have K160 : Keep h0 h160 [a0] := K147.ext E160
 have Ef161 : Exa Z h160 a0 own_GU := (Ef148).ext E160
 have Ff162 : Fld Z h160 a0 own_GU "text" "Ljava/lang/String;" w_text_a0 := (Ff149).ext E160
 have Ff163 : Fld Z h160 a0 own_GU "host" "Ljava/lang/String;" w_host_a0 := (Ff150).ext E160
 have Ff164 : Fld Z h160 a0 own_GU "port" "Ljava/util/Optional;" w_port_a0 := (Ff151).ext E160
 have Ff165 : Fld Z h160 a0 own_GU "type" "Ljava/util/Optional;" w_type_a0 := (Ff152).ext E160
 have Ff166 : Fld Z h160 a0 own_GU "selector" "Ljava/lang/String;" w_selector_a0 := (Ff153).ext E160
 have Ff167 : Fld Z h160 a0 own_GU "search" "Ljava/util/Optional;" w_search_a0 := (Ff154).ext E160
 have Ff168 : Fld Z h160 a0 own_GU "gopherPlus" "Ljava/util/Optional;" w_gopherPlus_a0 := (Ff155).ext E160
 have pre169 : own_P p e below T160 (mkF m 53 #[vR a0, vR a1, vR a2, vR a3, vR a4, vR a5, vR a6, vR a7] [(.ref a160), (.ref a7)]) s₁ (entryFrame m #[(.ref a0), (.ref a1), (.ref a2), (.ref a3), (.ref a4), (.ref a5), (.ref a6), (.ref a7)] 8) := fun t k => pre159 t (st160 t k)
 obtain ⟨_, _, ⟨T170, L170, k170, n170⟩, -, X170, ⟨Lc170, hQ170, l170, y170, z170⟩, st170⟩ := Jvm.LawKit.callS X160 hx (y := (⟨"java/util/Objects", "requireNonNull", "(Ljava/lang/Object;Ljava/lang/String;)Ljava/lang/Object;"⟩ : MethodName)) ho160 (mvT hZ160 (own_w hw 49 rfl)) (mvT hZ160 (own_w hw 50 rfl)) (mvT hZ160 (own_w hw 51 rfl)) (mvT hZ160 (own_w hw 52 rfl)) (by decide) (backOf (W := 0) (rm9 l Z ar0 hw [] a7 a160 h160 n0 Z160) hZ160 (own_w hw 52 rfl) (own_w hw 51 rfl) (by decide) (by decide)) (g := (mkF m 53 #[vR a0, vR a1, vR a2, vR a3, vR a4, vR a5, vR a6, vR a7] [(.ref a160), (.ref a7)])) rfl (by rw [hml]; rfl) (argsL := [(.ref a7), (.ref a160)]) (rest := []) (lenOf pd_6 rfl) rfl (by show 2 * 0 + _ ≤ _; exact Nat.le_of_eq rfl) (hb hby d7_53) (fun _ _ => ⟨rfl, e160, (by decide : 14 + 0 ≤ _), (by decide : 188 + 0 ≤ _)⟩)
 dsimp only [Pt.U, Pt.locs, Pt.cells, Pt.slots] at X170 l170 y170 z170 st170 hQ170
 subst l170 y170 z170
 obtain ⟨rfl, N170q, e170⟩ := hQ170
 have N170 := Fr.app N157 N170q
 have pre171 : own_P p e below T170 (mkF m 56 #[vR a0, vR a1, vR a2, vR a3, vR a4, vR a5, vR a6, vR a7] [(.ref a7)]) s₁ (entryFrame m #[(.ref a0), (.ref a1), (.ref a2), (.ref a3), (.ref a4), (.ref a5), (.ref a6), (.ref a7)] 8) := fun t k => pre169 t (st170 t k)
 have pre172 : own_P p e below T170 (mkF m 59 #[vR a0, vR a1, vR a2, vR a3, vR a4, vR a5, vR a6, vR a7] [(.ref a1), (.ref a0)]) s₁ (entryFrame m #[(.ref a0), (.ref a1), (.ref a2), (.ref a3), (.ref a4), (.ref a5), (.ref a6), (.ref a7)] 8) := by
  intro t k
  refine pre171 t ?_
  refine XS.pop X170.here hx rfl (hb hby d7_56) rfl rfl ?_
  refine XS.aloadN X170.here hx rfl (hb hby d7_57) rfl rfl ?_
  refine XS.aloadN X170.here hx rfl (hb hby d7_58) rfl rfl ?_
  exact k
 obtain ⟨T173, h173, X173, e173, W173, st173⟩ := putF X170 hx hZ160 ho160 (host := "") (Or.inl (own_w hw 59 rfl)) Via.refl e170 Ff162 Ef161 (Or.inr ⟨(own_w hw 60 rfl), rfl, hnm⟩) (own_w hw 33 rfl) (ty := (.object "java/lang/String")) (by decide) rfl rfl (g := (mkF m 59 #[vR a0, vR a1, vR a2, vR a3, vR a4, vR a5, vR a6, vR a7] [(.ref a1), (.ref a0)])) rfl rfl (hb hby d7_59)
 have Z173 : n0 ≤ h173.size := Nat.le_trans Z160 (Keep.of_wr W173).1
 have K173 : Keep h0 h173 [a0] := K160.wr W173 (Or.inl (List.mem_of_getElem? (i := 0) rfl))
 have N173 := Fr.snoc X173 N170 g_a0
 have hk173 := Nat.le_trans hk160 (Keep.of_wr W173).1
 have CR173 := CR160.trans (CHr.wr W173 (Safe.exa hZ160.alike Ef161 (by decide) (by decide)) CR160.1)
 have Ef174 : Exa Z h173 a0 own_GU := (Ef161).wr W173
 have Ff175 : Fld Z h173 a0 own_GU "host" "Ljava/lang/String;" w_host_a0 := (Ff163).other W173 (Or.inr (slot_ne (Or.inr (own_w hw 62 rfl)) (Or.inr (own_w hw 60 rfl)) (by decide) (t := (.object "java/lang/String")) (t' := (.object "java/lang/String")) (by decide) (by decide)))
 have Ff176 : Fld Z h173 a0 own_GU "port" "Ljava/util/Optional;" w_port_a0 := (Ff164).other W173 (Or.inr (slot_ne (Or.inr (own_w hw 64 rfl)) (Or.inr (own_w hw 60 rfl)) (by decide) (t := (.object "java/util/Optional")) (t' := (.object "java/lang/String")) (by decide) (by decide)))
 have Ff177 : Fld Z h173 a0 own_GU "type" "Ljava/util/Optional;" w_type_a0 := (Ff165).other W173 (Or.inr (slot_ne (Or.inr (own_w hw 66 rfl)) (Or.inr (own_w hw 60 rfl)) (by decide) (t := (.object "java/util/Optional")) (t' := (.object "java/lang/String")) (by decide) (by decide)))
 have Ff178 : Fld Z h173 a0 own_GU "selector" "Ljava/lang/String;" w_selector_a0 := (Ff166).other W173 (Or.inr (slot_ne (Or.inr (own_w hw 68 rfl)) (Or.inr (own_w hw 60 rfl)) (by decide) (t := (.object "java/lang/String")) (t' := (.object "java/lang/String")) (by decide) (by decide)))
 have Ff179 : Fld Z h173 a0 own_GU "search" "Ljava/util/Optional;" w_search_a0 := (Ff167).other W173 (Or.inr (slot_ne (Or.inr (own_w hw 70 rfl)) (Or.inr (own_w hw 60 rfl)) (by decide) (t := (.object "java/util/Optional")) (t' := (.object "java/lang/String")) (by decide) (by decide)))
 have Ff180 : Fld Z h173 a0 own_GU "gopherPlus" "Ljava/util/Optional;" w_gopherPlus_a0 := (Ff168).other W173 (Or.inr (slot_ne (Or.inr (own_w hw 72 rfl)) (Or.inr (own_w hw 60 rfl)) (by decide) (t := (.object "java/util/Optional")) (t' := (.object "java/lang/String")) (by decide) (by decide)))
 have Fw173 : Fld Z h173 a0 own_GU "text" "Ljava/lang/String;" (.ref a1) := (Ff162).same W173
 have pre181 : own_P p e below T173 (mkF m 62 #[vR a0, vR a1, vR a2, vR a3, vR a4, vR a5, vR a6, vR a7] []) s₁ (entryFrame m #[(.ref a0), (.ref a1), (.ref a2), (.ref a3), (.ref a4), (.ref a5), (.ref a6), (.ref a7)] 8) := fun t k => pre172 t (st173 t k)
 have pre182 : own_P p e below T173 (mkF m 64 #[vR a0, vR a1, vR a2, vR a3, vR a4, vR a5, vR a6, vR a7] [(.ref a2), (.ref a0)]) s₁ (entryFrame m #[(.ref a0), (.ref a1), (.ref a2), (.ref a3), (.ref a4), (.ref a5), (.ref a6), (.ref a7)] 8) := by
  intro t k
  refine pre181 t ?_
  refine XS.aloadN X173.here hx rfl (hb hby d7_62) rfl rfl ?_
  refine XS.aloadN X173.here hx rfl (hb hby d7_63) rfl rfl ?_
  exact k
 obtain ⟨T183, h183, X183, e183, W183, st183⟩ := putF X173 hx hZ160 ho160 (host := "") (Or.inl (own_w hw 61 rfl)) Via.refl e173 Ff175 Ef174 (Or.inr ⟨(own_w hw 62 rfl), rfl, hnm⟩) (own_w hw 33 rfl) (ty := (.object "java/lang/String")) (by decide) rfl rfl (g := (mkF m 64 #[vR a0, vR a1, vR a2, vR a3, vR a4, vR a5, vR a6, vR a7] [(.ref a2), (.ref a0)])) rfl rfl (hb hby d7_64)
 have Z183 : n0 ≤ h183.size := Nat.le_trans Z173 (Keep.of_wr W183).1
 have K183 : Keep h0 h183 [a0] := K173.wr W183 (Or.inl (List.mem_of_getElem? (i := 0) rfl))
 have N183 := Fr.snoc X183 N173 g_a0
 have hk183 := Nat.le_trans hk173 (Keep.of_wr W183).1
 have CR183 := CR173.trans (CHr.wr W183 (Safe.exa hZ160.alike Ef174 (by decide) (by decide)) CR173.1)
 have Ef184 : Exa Z h183 a0 own_GU := (Ef174).wr W183
 have Ff185 : Fld Z h183 a0 own_GU "port" "Ljava/util/Optional;" w_port_a0 := (Ff176).other W183 (Or.inr (slot_ne (Or.inr (own_w hw 64 rfl)) (Or.inr (own_w hw 62 rfl)) (by decide) (t := (.object "java/util/Optional")) (t' := (.object "java/lang/String")) (by decide) (by decide)))
 have Ff186 : Fld Z h183 a0 own_GU "type" "Ljava/util/Optional;" w_type_a0 := (Ff177).other W183 (Or.inr (slot_ne (Or.inr (own_w hw 66 rfl)) (Or.inr (own_w hw 62 rfl)) (by decide) (t := (.object "java/util/Optional")) (t' := (.object "java/lang/String")) (by decide) (by decide)))
 have Ff187 : Fld Z h183 a0 own_GU "selector" "Ljava/lang/String;" w_selector_a0 := (Ff178).other W183 (Or.inr (slot_ne (Or.inr (own_w hw 68 rfl)) (Or.inr (own_w hw 62 rfl)) (by decide) (t := (.object "java/lang/String")) (t' := (.object "java/lang/String")) (by decide) (by decide)))
 have Ff188 : Fld Z h183 a0 own_GU "search" "Ljava/util/Optional;" w_search_a0 := (Ff179).other W183 (Or.inr (slot_ne (Or.inr (own_w hw 70 rfl)) (Or.inr (own_w hw 62 rfl)) (by decide) (t := (.object "java/util/Optional")) (t' := (.object "java/lang/String")) (by decide) (by decide)))
 have Ff189 : Fld Z h183 a0 own_GU "gopherPlus" "Ljava/util/Optional;" w_gopherPlus_a0 := (Ff180).other W183 (Or.inr (slot_ne (Or.inr (own_w hw 72 rfl)) (Or.inr (own_w hw 62 rfl)) (by decide) (t := (.object "java/util/Optional")) (t' := (.object "java/lang/String")) (by decide) (by decide)))
 have Ff190 : Fld Z h183 a0 own_GU "text" "Ljava/lang/String;" (.ref a1) := (Fw173).other W183 (Or.inr (slot_ne (Or.inr (own_w hw 60 rfl)) (Or.inr (own_w hw 62 rfl)) (by decide) (t := (.object "java/lang/String")) (t' := (.object "java/lang/String")) (by decide) (by decide)))
 have Fw183 : Fld Z h183 a0 own_GU "host" "Ljava/lang/String;" (.ref a2) := (Ff175).same W183
 have pre191 : own_P p e below T183 (mkF m 67 #[vR a0, vR a1, vR a2, vR a3, vR a4, vR a5, vR a6, vR a7] []) s₁ (entryFrame m #[(.ref a0), (.ref a1), (.ref a2), (.ref a3), (.ref a4), (.ref a5), (.ref a6), (.ref a7)] 8) := fun t k => pre182 t (st183 t k)
 have pre192 : own_P p e below T183 (mkF m 69 #[vR a0, vR a1, vR a2, vR a3, vR a4, vR a5, vR a6, vR a7] [(.ref a3), (.ref a0)]) s₁ (entryFrame m #[(.ref a0), (.ref a1), (.ref a2), (.ref a3), (.ref a4), (.ref a5), (.ref a6), (.ref a7)] 8) := by
  intro t k
  refine pre191 t ?_
  refine XS.aloadN X183.here hx rfl (hb hby d7_67) rfl rfl ?_
  refine XS.aloadN X183.here hx rfl (hb hby d7_68) rfl rfl ?_
  exact k
 obtain ⟨T193, h193, X193, e193, W193, st193⟩ := putF X183 hx hZ160 ho160 (host := "") (Or.inl (own_w hw 63 rfl)) Via.refl e183 Ff185 Ef184 (Or.inr ⟨(own_w hw 64 rfl), rfl, hnm⟩) (own_w hw 33 rfl) (ty := (.object "java/util/Optional")) (by decide) rfl rfl (g := (mkF m 69 #[vR a0, vR a1, vR a2, vR a3, vR a4, vR a5, vR a6, vR a7] [(.ref a3), (.ref a0)])) rfl rfl (hb hby d7_69)
 have Z193 : n0 ≤ h193.size := Nat.le_trans Z183 (Keep.of_wr W193).1
 have K193 : Keep h0 h193 [a0] := K183.wr W193 (Or.inl (List.mem_of_getElem? (i := 0) rfl))
 have N193 := Fr.snoc X193 N183 g_a0
 have hk193 := Nat.le_trans hk183 (Keep.of_wr W193).1
 have CR193 := CR183.trans (CHr.wr W193 (Safe.exa hZ160.alike Ef184 (by decide) (by decide)) CR183.1)
 have Ef194 : Exa Z h193 a0 own_GU := (Ef184).wr W193
 have Ff195 : Fld Z h193 a0 own_GU "type" "Ljava/util/Optional;" w_type_a0 := (Ff186).other W193 (Or.inr (slot_ne (Or.inr (own_w hw 66 rfl)) (Or.inr (own_w hw 64 rfl)) (by decide) (t := (.object "java/util/Optional")) (t' := (.object "java/util/Optional")) (by decide) (by decide)))
 have Ff196 : Fld Z h193 a0 own_GU "selector" "Ljava/lang/String;" w_selector_a0 := (Ff187).other W193 (Or.inr (slot_ne (Or.inr (own_w hw 68 rfl)) (Or.inr (own_w hw 64 rfl)) (by decide) (t := (.object "java/lang/String")) (t' := (.object "java/util/Optional")) (by decide) (by decide)))
 have Ff197 : Fld Z h193 a0 own_GU "search" "Ljava/util/Optional;" w_search_a0 := (Ff188).other W193 (Or.inr (slot_ne (Or.inr (own_w hw 70 rfl)) (Or.inr (own_w hw 64 rfl)) (by decide) (t := (.object "java/util/Optional")) (t' := (.object "java/util/Optional")) (by decide) (by decide)))
 have Ff198 : Fld Z h193 a0 own_GU "gopherPlus" "Ljava/util/Optional;" w_gopherPlus_a0 := (Ff189).other W193 (Or.inr (slot_ne (Or.inr (own_w hw 72 rfl)) (Or.inr (own_w hw 64 rfl)) (by decide) (t := (.object "java/util/Optional")) (t' := (.object "java/util/Optional")) (by decide) (by decide)))
 have Ff199 : Fld Z h193 a0 own_GU "text" "Ljava/lang/String;" (.ref a1) := (Ff190).other W193 (Or.inr (slot_ne (Or.inr (own_w hw 60 rfl)) (Or.inr (own_w hw 64 rfl)) (by decide) (t := (.object "java/lang/String")) (t' := (.object "java/util/Optional")) (by decide) (by decide)))
 have Ff200 : Fld Z h193 a0 own_GU "host" "Ljava/lang/String;" (.ref a2) := (Fw183).other W193 (Or.inr (slot_ne (Or.inr (own_w hw 62 rfl)) (Or.inr (own_w hw 64 rfl)) (by decide) (t := (.object "java/lang/String")) (t' := (.object "java/util/Optional")) (by decide) (by decide)))
 have Fw193 : Fld Z h193 a0 own_GU "port" "Ljava/util/Optional;" (.ref a3) := (Ff185).same W193
 have pre201 : own_P p e below T193 (mkF m 72 #[vR a0, vR a1, vR a2, vR a3, vR a4, vR a5, vR a6, vR a7] []) s₁ (entryFrame m #[(.ref a0), (.ref a1), (.ref a2), (.ref a3), (.ref a4), (.ref a5), (.ref a6), (.ref a7)] 8) := fun t k => pre192 t (st193 t k)
 have pre202 : own_P p e below T193 (mkF m 75 #[vR a0, vR a1, vR a2, vR a3, vR a4, vR a5, vR a6, vR a7] [(.ref a4), (.ref a0)]) s₁ (entryFrame m #[(.ref a0), (.ref a1), (.ref a2), (.ref a3), (.ref a4), (.ref a5), (.ref a6), (.ref a7)] 8) := by
  intro t k
  refine pre201 t ?_
  refine XS.aloadN X193.here hx rfl (hb hby d7_72) rfl rfl ?_
  refine XS.aload X193.here hx rfl (hb hby d7_73) rfl rfl ?_
  exact k
 obtain ⟨T203, h203, X203, e203, W203, st203⟩ := putF X193 hx hZ160 ho160 (host := "") (Or.inl (own_w hw 65 rfl)) Via.refl e193 Ff195 Ef194 (Or.inr ⟨(own_w hw 66 rfl), rfl, hnm⟩) (own_w hw 33 rfl) (ty := (.object "java/util/Optional")) (by decide) rfl rfl (g := (mkF m 75 #[vR a0, vR a1, vR a2, vR a3, vR a4, vR a5, vR a6, vR a7] [(.ref a4), (.ref a0)])) rfl rfl (hb hby d7_75)
 have Z203 : n0 ≤ h203.size := Nat.le_trans Z193 (Keep.of_wr W203).1
 have K203 : Keep h0 h203 [a0] := K193.wr W203 (Or.inl (List.mem_of_getElem? (i := 0) rfl))
 have N203 := Fr.snoc X203 N193 g_a0
 have hk203 := Nat.le_trans hk193 (Keep.of_wr W203).1
 have CR203 := CR193.trans (CHr.wr W203 (Safe.exa hZ160.alike Ef194 (by decide) (by decide)) CR193.1)
 have Ef204 : Exa Z h203 a0 own_GU := (Ef194).wr W203
 have Ff205 : Fld Z h203 a0 own_GU "selector" "Ljava/lang/String;" w_selector_a0 := (Ff196).other W203 (Or.inr (slot_ne (Or.inr (own_w hw 68 rfl)) (Or.inr (own_w hw 66 rfl)) (by decide) (t := (.object "java/lang/String")) (t' := (.object "java/util/Optional")) (by decide) (by decide)))
 have Ff206 : Fld Z h203 a0 own_GU "search" "Ljava/util/Optional;" w_search_a0 := (Ff197).other W203 (Or.inr (slot_ne (Or.inr (own_w hw 70 rfl)) (Or.inr (own_w hw 66 rfl)) (by decide) (t := (.object "java/util/Optional")) (t' := (.object "java/util/Optional")) (by decide) (by decide)))
 have Ff207 : Fld Z h203 a0 own_GU "gopherPlus" "Ljava/util/Optional;" w_gopherPlus_a0 := (Ff198).other W203 (Or.inr (slot_ne (Or.inr (own_w hw 72 rfl)) (Or.inr (own_w hw 66 rfl)) (by decide) (t := (.object "java/util/Optional")) (t' := (.object "java/util/Optional")) (by decide) (by decide)))
 have Ff208 : Fld Z h203 a0 own_GU "text" "Ljava/lang/String;" (.ref a1) := (Ff199).other W203 (Or.inr (slot_ne (Or.inr (own_w hw 60 rfl)) (Or.inr (own_w hw 66 rfl)) (by decide) (t := (.object "java/lang/String")) (t' := (.object "java/util/Optional")) (by decide) (by decide)))
 have Ff209 : Fld Z h203 a0 own_GU "host" "Ljava/lang/String;" (.ref a2) := (Ff200).other W203 (Or.inr (slot_ne (Or.inr (own_w hw 62 rfl)) (Or.inr (own_w hw 66 rfl)) (by decide) (t := (.object "java/lang/String")) (t' := (.object "java/util/Optional")) (by decide) (by decide)))
 have Ff210 : Fld Z h203 a0 own_GU "port" "Ljava/util/Optional;" (.ref a3) := (Fw193).other W203 (Or.inr (slot_ne (Or.inr (own_w hw 64 rfl)) (Or.inr (own_w hw 66 rfl)) (by decide) (t := (.object "java/util/Optional")) (t' := (.object "java/util/Optional")) (by decide) (by decide)))
 have Fw203 : Fld Z h203 a0 own_GU "type" "Ljava/util/Optional;" (.ref a4) := (Ff195).same W203
 have pre211 : own_P p e below T203 (mkF m 78 #[vR a0, vR a1, vR a2, vR a3, vR a4, vR a5, vR a6, vR a7] []) s₁ (entryFrame m #[(.ref a0), (.ref a1), (.ref a2), (.ref a3), (.ref a4), (.ref a5), (.ref a6), (.ref a7)] 8) := fun t k => pre202 t (st203 t k)
 have pre212 : own_P p e below T203 (mkF m 81 #[vR a0, vR a1, vR a2, vR a3, vR a4, vR a5, vR a6, vR a7] [(.ref a5), (.ref a0)]) s₁ (entryFrame m #[(.ref a0), (.ref a1), (.ref a2), (.ref a3), (.ref a4), (.ref a5), (.ref a6), (.ref a7)] 8) := by
  intro t k
  refine pre211 t ?_
  refine XS.aloadN X203.here hx rfl (hb hby d7_78) rfl rfl ?_
  refine XS.aload X203.here hx rfl (hb hby d7_79) rfl rfl ?_
  exact k
 obtain ⟨T213, h213, X213, e213, W213, st213⟩ := putF X203 hx hZ160 ho160 (host := "") (Or.inl (own_w hw 67 rfl)) Via.refl e203 Ff205 Ef204 (Or.inr ⟨(own_w hw 68 rfl), rfl, hnm⟩) (own_w hw 33 rfl) (ty := (.object "java/lang/String")) (by decide) rfl rfl (g := (mkF m 81 #[vR a0, vR a1, vR a2, vR a3, vR a4, vR a5, vR a6, vR a7] [(.ref a5), (.ref a0)])) rfl rfl (hb hby d7_81)
 have Z213 : n0 ≤ h213.size := Nat.le_trans Z203 (Keep.of_wr W213).1
 have K213 : Keep h0 h213 [a0] := K203.wr W213 (Or.inl (List.mem_of_getElem? (i := 0) rfl))
 have N213 := Fr.snoc X213 N203 g_a0
 have hk213 := Nat.le_trans hk203 (Keep.of_wr W213).1
 have CR213 := CR203.trans (CHr.wr W213 (Safe.exa hZ160.alike Ef204 (by decide) (by decide)) CR203.1)
 have Ef214 : Exa Z h213 a0 own_GU := (Ef204).wr W213
 have Ff215 : Fld Z h213 a0 own_GU "search" "Ljava/util/Optional;" w_search_a0 := (Ff206).other W213 (Or.inr (slot_ne (Or.inr (own_w hw 70 rfl)) (Or.inr (own_w hw 68 rfl)) (by decide) (t := (.object "java/util/Optional")) (t' := (.object "java/lang/String")) (by decide) (by decide)))
 have Ff216 : Fld Z h213 a0 own_GU "gopherPlus" "Ljava/util/Optional;" w_gopherPlus_a0 := (Ff207).other W213 (Or.inr (slot_ne (Or.inr (own_w hw 72 rfl)) (Or.inr (own_w hw 68 rfl)) (by decide) (t := (.object "java/util/Optional")) (t' := (.object "java/lang/String")) (by decide) (by decide)))
 have Ff217 : Fld Z h213 a0 own_GU "text" "Ljava/lang/String;" (.ref a1) := (Ff208).other W213 (Or.inr (slot_ne (Or.inr (own_w hw 60 rfl)) (Or.inr (own_w hw 68 rfl)) (by decide) (t := (.object "java/lang/String")) (t' := (.object "java/lang/String")) (by decide) (by decide)))
 have Ff218 : Fld Z h213 a0 own_GU "host" "Ljava/lang/String;" (.ref a2) := (Ff209).other W213 (Or.inr (slot_ne (Or.inr (own_w hw 62 rfl)) (Or.inr (own_w hw 68 rfl)) (by decide) (t := (.object "java/lang/String")) (t' := (.object "java/lang/String")) (by decide) (by decide)))
 have Ff219 : Fld Z h213 a0 own_GU "port" "Ljava/util/Optional;" (.ref a3) := (Ff210).other W213 (Or.inr (slot_ne (Or.inr (own_w hw 64 rfl)) (Or.inr (own_w hw 68 rfl)) (by decide) (t := (.object "java/util/Optional")) (t' := (.object "java/lang/String")) (by decide) (by decide)))
 have Ff220 : Fld Z h213 a0 own_GU "type" "Ljava/util/Optional;" (.ref a4) := (Fw203).other W213 (Or.inr (slot_ne (Or.inr (own_w hw 66 rfl)) (Or.inr (own_w hw 68 rfl)) (by decide) (t := (.object "java/util/Optional")) (t' := (.object "java/lang/String")) (by decide) (by decide)))
 have Fw213 : Fld Z h213 a0 own_GU "selector" "Ljava/lang/String;" (.ref a5) := (Ff205).same W213
 have pre221 : own_P p e below T213 (mkF m 84 #[vR a0, vR a1, vR a2, vR a3, vR a4, vR a5, vR a6, vR a7] []) s₁ (entryFrame m #[(.ref a0), (.ref a1), (.ref a2), (.ref a3), (.ref a4), (.ref a5), (.ref a6), (.ref a7)] 8) := fun t k => pre212 t (st213 t k)
 have pre222 : own_P p e below T213 (mkF m 87 #[vR a0, vR a1, vR a2, vR a3, vR a4, vR a5, vR a6, vR a7] [(.ref a6), (.ref a0)]) s₁ (entryFrame m #[(.ref a0), (.ref a1), (.ref a2), (.ref a3), (.ref a4), (.ref a5), (.ref a6), (.ref a7)] 8) := by
  intro t k
  refine pre221 t ?_
  refine XS.aloadN X213.here hx rfl (hb hby d7_84) rfl rfl ?_
  refine XS.aload X213.here hx rfl (hb hby d7_85) rfl rfl ?_
  exact k
 obtain ⟨T223, h223, X223, e223, W223, st223⟩ := putF X213 hx hZ160 ho160 (host := "") (Or.inl (own_w hw 69 rfl)) Via.refl e213 Ff215 Ef214 (Or.inr ⟨(own_w hw 70 rfl), rfl, hnm⟩) (own_w hw 33 rfl) (ty := (.object "java/util/Optional")) (by decide) rfl rfl (g := (mkF m 87 #[vR a0, vR a1, vR a2, vR a3, vR a4, vR a5, vR a6, vR a7] [(.ref a6), (.ref a0)])) rfl rfl (hb hby d7_87)
 have Z223 : n0 ≤ h223.size := Nat.le_trans Z213 (Keep.of_wr W223).1
 have K223 : Keep h0 h223 [a0] := K213.wr W223 (Or.inl (List.mem_of_getElem? (i := 0) rfl))
 have N223 := Fr.snoc X223 N213 g_a0
 have hk223 := Nat.le_trans hk213 (Keep.of_wr W223).1
 have CR223 := CR213.trans (CHr.wr W223 (Safe.exa hZ160.alike Ef214 (by decide) (by decide)) CR213.1)
 have Ef224 : Exa Z h223 a0 own_GU := (Ef214).wr W223
 have Ff225 : Fld Z h223 a0 own_GU "gopherPlus" "Ljava/util/Optional;" w_gopherPlus_a0 := (Ff216).other W223 (Or.inr (slot_ne (Or.inr (own_w hw 72 rfl)) (Or.inr (own_w hw 70 rfl)) (by decide) (t := (.object "java/util/Optional")) (t' := (.object "java/util/Optional")) (by decide) (by decide)))
 have Ff226 : Fld Z h223 a0 own_GU "text" "Ljava/lang/String;" (.ref a1) := (Ff217).other W223 (Or.inr (slot_ne (Or.inr (own_w hw 60 rfl)) (Or.inr (own_w hw 70 rfl)) (by decide) (t := (.object "java/lang/String")) (t' := (.object "java/util/Optional")) (by decide) (by decide)))
 have Ff227 : Fld Z h223 a0 own_GU "host" "Ljava/lang/String;" (.ref a2) := (Ff218).other W223 (Or.inr (slot_ne (Or.inr (own_w hw 62 rfl)) (Or.inr (own_w hw 70 rfl)) (by decide) (t := (.object "java/lang/String")) (t' := (.object "java/util/Optional")) (by decide) (by decide)))
 have Ff228 : Fld Z h223 a0 own_GU "port" "Ljava/util/Optional;" (.ref a3) := (Ff219).other W223 (Or.inr (slot_ne (Or.inr (own_w hw 64 rfl)) (Or.inr (own_w hw 70 rfl)) (by decide) (t := (.object "java/util/Optional")) (t' := (.object "java/util/Optional")) (by decide) (by decide)))
 have Ff229 : Fld Z h223 a0 own_GU "type" "Ljava/util/Optional;" (.ref a4) := (Ff220).other W223 (Or.inr (slot_ne (Or.inr (own_w hw 66 rfl)) (Or.inr (own_w hw 70 rfl)) (by decide) (t := (.object "java/util/Optional")) (t' := (.object "java/util/Optional")) (by decide) (by decide)))
 have Ff230 : Fld Z h223 a0 own_GU "selector" "Ljava/lang/String;" (.ref a5) := (Fw213).other W223 (Or.inr (slot_ne (Or.inr (own_w hw 68 rfl)) (Or.inr (own_w hw 70 rfl)) (by decide) (t := (.object "java/lang/String")) (t' := (.object "java/util/Optional")) (by decide) (by decide)))
 have Fw223 : Fld Z h223 a0 own_GU "search" "Ljava/util/Optional;" (.ref a6) := (Ff215).same W223
 have pre231 : own_P p e below T223 (mkF m 90 #[vR a0, vR a1, vR a2, vR a3, vR a4, vR a5, vR a6, vR a7] []) s₁ (entryFrame m #[(.ref a0), (.ref a1), (.ref a2), (.ref a3), (.ref a4), (.ref a5), (.ref a6), (.ref a7)] 8) := fun t k => pre222 t (st223 t k)
 have pre232 : own_P p e below T223 (mkF m 93 #[vR a0, vR a1, vR a2, vR a3, vR a4, vR a5, vR a6, vR a7] [(.ref a7), (.ref a0)]) s₁ (entryFrame m #[(.ref a0), (.ref a1), (.ref a2), (.ref a3), (.ref a4), (.ref a5), (.ref a6), (.ref a7)] 8) := by
  intro t k
  refine pre231 t ?_
  refine XS.aloadN X223.here hx rfl (hb hby d7_90) rfl rfl ?_
  refine XS.aload X223.here hx rfl (hb hby d7_91) rfl rfl ?_
  exact k
 obtain ⟨T233, h233, X233, e233, W233, st233⟩ := putF X223 hx hZ160 ho160 (host := "") (Or.inl (own_w hw 71 rfl)) Via.refl e223 Ff225 Ef224 (Or.inr ⟨(own_w hw 72 rfl), rfl, hnm⟩) (own_w hw 33 rfl) (ty := (.object "java/util/Optional")) (by decide) rfl rfl (g := (mkF m 93 #[vR a0, vR a1, vR a2, vR a3, vR a4, vR a5, vR a6, vR a7] [(.ref a7), (.ref a0)])) rfl rfl (hb hby d7_93)
 have Z233 : n0 ≤ h233.size := Nat.le_trans Z223 (Keep.of_wr W233).1
 have K233 : Keep h0 h233 [a0] := K223.wr W233 (Or.inl (List.mem_of_getElem? (i := 0) rfl))
 have N233 := Fr.snoc X233 N223 g_a0
 have hk233 := Nat.le_trans hk223 (Keep.of_wr W233).1
 have CR233 := CR223.trans (CHr.wr W233 (Safe.exa hZ160.alike Ef224 (by decide) (by decide)) CR223.1)
 have Ef234 : Exa Z h233 a0 own_GU := (Ef224).wr W233
 have Ff235 : Fld Z h233 a0 own_GU "text" "Ljava/lang/String;" (.ref a1) := (Ff226).other W233 (Or.inr (slot_ne (Or.inr (own_w hw 60 rfl)) (Or.inr (own_w hw 72 rfl)) (by decide) (t := (.object "java/lang/String")) (t' := (.object "java/util/Optional")) (by decide) (by decide)))
 have Ff236 : Fld Z h233 a0 own_GU "host" "Ljava/lang/String;" (.ref a2) := (Ff227).other W233 (Or.inr (slot_ne (Or.inr (own_w hw 62 rfl)) (Or.inr (own_w hw 72 rfl)) (by decide) (t := (.object "java/lang/String")) (t' := (.object "java/util/Optional")) (by decide) (by decide)))
 have Ff237 : Fld Z h233 a0 own_GU "port" "Ljava/util/Optional;" (.ref a3) := (Ff228).other W233 (Or.inr (slot_ne (Or.inr (own_w hw 64 rfl)) (Or.inr (own_w hw 72 rfl)) (by decide) (t := (.object "java/util/Optional")) (t' := (.object "java/util/Optional")) (by decide) (by decide)))
 have Ff238 : Fld Z h233 a0 own_GU "type" "Ljava/util/Optional;" (.ref a4) := (Ff229).other W233 (Or.inr (slot_ne (Or.inr (own_w hw 66 rfl)) (Or.inr (own_w hw 72 rfl)) (by decide) (t := (.object "java/util/Optional")) (t' := (.object "java/util/Optional")) (by decide) (by decide)))
 have Ff239 : Fld Z h233 a0 own_GU "selector" "Ljava/lang/String;" (.ref a5) := (Ff230).other W233 (Or.inr (slot_ne (Or.inr (own_w hw 68 rfl)) (Or.inr (own_w hw 72 rfl)) (by decide) (t := (.object "java/lang/String")) (t' := (.object "java/util/Optional")) (by decide) (by decide)))
 have Ff240 : Fld Z h233 a0 own_GU "search" "Ljava/util/Optional;" (.ref a6) := (Fw223).other W233 (Or.inr (slot_ne (Or.inr (own_w hw 70 rfl)) (Or.inr (own_w hw 72 rfl)) (by decide) (t := (.object "java/util/Optional")) (t' := (.object "java/util/Optional")) (by decide) (by decide)))
 have Fw233 : Fld Z h233 a0 own_GU "gopherPlus" "Ljava/util/Optional;" (.ref a7) := (Ff225).same W233
 have pre241 : own_P p e below T233 (mkF m 96 #[vR a0, vR a1, vR a2, vR a3, vR a4, vR a5, vR a6, vR a7] []) s₁ (entryFrame m #[(.ref a0), (.ref a1), (.ref a2), (.ref a3), (.ref a4), (.ref a5), (.ref a6), (.ref a7)] 8) := fun t k => pre232 t (st233 t k)
 obtain ⟨fs, hr, hrun, hended, hRW⟩ := X233.leaveW (s := s) (vm₁ := T160.vm) hS160 (by rw [e233]; first | exact hk233 | exact Nat.le_refl _) (v := none) (fun _ => rfl)
 refine ⟨_, _, pre241 _ ?_, hrun, hended, _, _, rfl, ?_, ?_, hRW.1, hRW.2.1, hRW.2.2.1, hRW.2.2.2.mono (by decide) (by decide)⟩
 ·
  exact X233.returnOut hx Bd.returns (hb hby d7_96) hr
 ·
  show Q7 Z a0 a1 a2 a3 a4 a5 a6 a7 w_text_a0 w_host_a0 w_port_a0 w_type_a0 w_selector_a0 w_search_a0 w_gopherPlus_a0 h0 n0 _ T233.heap _
  rw [e233]
  exact ⟨rfl, N233, K233, Ef234, Ff235, Ff236, Ff237, Ff238, Ff239, Ff240, Fw233⟩
 ·
  have q := CR233.trans (CHv.at X233 hZ160 hEL CR233.1)
  rw [hh]
  show CHr _ _ _ _ T233.vm T233.heap
  rw [e233]
  exact q
theorem d10_0 : decode prog_33_method_3_code 0 = .ok (.aload_n 0, 1) := by decide +kernel
theorem d10_1 : decode prog_33_method_3_code 1 = .ok (.getfield 37, 3) := by decide +kernel
theorem d10_4 : decode prog_33_method_3_code 4 = .ok (.ldc 47, 2) := by decide +kernel
theorem d10_6 : decode prog_33_method_3_code 6 = .ok (.invokevirtual 49, 3) := by decide +kernel
theorem d10_9 : decode prog_33_method_3_code 9 = .ok (.checkcast 55, 3) := by decide +kernel
theorem d10_12 : decode prog_33_method_3_code 12 = .ok (.areturn, 1) := by decide +kernel
theorem ef_10 (m : MethodId) (x0 : Addr) : entryFrame m #[(.ref x0)] 1 = mkF m 0 #[vR x0] [] := by first | (simp [entryFrame, mkF, argsToLocals, Value.category]; done) | rfl
def Q10_y (Z : State) (a0 : Addr) (ty : Addr) (r1 : Addr) (h0 : Heap) (n0 : Nat) (v : Option Value) (h : Heap) (L : List Loc) : Prop := v = some (.ref r1) ∧ Fr n0 L ∧ Keep h0 h []
set_option maxRecDepth 65536 in
set_option maxHeartbeats 40000000 in
theorem rm10_y (l : Launch) (Z : State) (ar0 : Array Value) (hw : ∀ d ∈ tables_1, d.before ar0 Z = true) (ws : List Jvm.Cond) (a0 : Addr) (ty : Addr) (r1 : Addr) (h0 : Heap) (n0 : Nat) (Z0 : n0 ≤ h0.size) (E_a0 : Exa Z h0 a0 own_GU) (F_type_a0 : Fld Z h0 a0 own_GU "type" "Ljava/util/Optional;" (.ref ty)) (E_ty : Exa Z h0 ty "java/util/Optional") (F_value_ty : Fld Z h0 ty "java/util/Optional" "value" "Ljava/lang/Object;" (.ref r1)) (E_r1 : Exa Z h0 r1 "java/lang/String") :
  MetFree l (⟨own_GU, "effectiveType", "()Ljava/lang/String;"⟩ : MethodName) (head1 (Jvm.Cond.code (⟨own_GU, "effectiveType", "()Ljava/lang/String;"⟩ : MethodName) prog_33_method_3_code 1 (some (.object "java/lang/String")) :: ws) ({ frames := 1, cells := 2, slots := 8, locals := 13 } : Room)) (fun a U => a = #[(.ref a0)] ∧ Z.Warmed39 U.vm ∧ U.heap = h0 ∧ CHv Z own_EL U.vm h0) (fun _ _ _ _ _ => True) (fun _ U o U' => ∃ v L, o = .returned v ∧ Q10_y Z a0 ty r1 h0 n0 v U'.heap L ∧ CHr Z own_EL U.vm U.heap U'.vm U'.heap ∧ ReturnedEndW U o U' L ({ frames := 1, cells := 2, slots := 8, locals := 13 } : Room).cells ({ frames := 1, cells := 2, slots := 8, locals := 13 } : Room).slots) := by
 refine MetFree.of_bodySF (plainFor_of_name pn_5) hisR ?_
 intro p e s m args below meth c s₁ Bd hml0 hP hK
 obtain ⟨rfl, hZ, hh, hC0⟩ := hP
 have hx := Bd.exec
 have hby := Bd.bytes
 have hml : c.maxLocals = 1 := hml0
 have hown : s.vm.findClass own_GU = some m.cls := by have q := findClass_of_methodNamed Bd.named; exact q
 have hnm := (name_of_methodNamed Bd.named Bd.method).1
 have X0 : Stand p l e ({ frames := 1, cells := 2, slots := 8, locals := 13 } : Room) s m #[(.ref a0)] below meth c s₁ [] 0 0 := Stand.of_body Bd
 have e0 : s₁.heap = h0 := by rw [← hh, Bd.state]; rfl
 have N0 := Fr.nil n0
 have hS0 : s.Since s.vm 0 := own_since0 s
 have hCR0 : CHr Z own_EL s.vm h0 s.vm h0 := CHr.refl hC0
 have hEL : EW Z ar0 own_EL := own_EW hw
 have pre0 : own_P p e below s₁ (mkF m 0 #[vR a0] []) s₁ (entryFrame m #[(.ref a0)] 1) := fun t k => castTop (ef_10 m a0) k
 have pre242 : own_P p e below s₁ (mkF m 1 #[vR a0] [(.ref a0)]) s₁ (entryFrame m #[(.ref a0)] 1) := by
  intro t k
  refine pre0 t ?_
  refine XS.aloadN X0.here hx rfl (hb hby d10_0) rfl rfl ?_
  exact k
 obtain ⟨T243, X243, e243, st243⟩ := getF X0 hx hZ hown (host := "") (Or.inl (own_w hw 65 rfl)) Via.refl e0 F_type_a0 (g := (mkF m 1 #[vR a0] [(.ref a0)])) rfl rfl (hb hby d10_1)
 have pre244 : own_P p e below T243 (mkF m 4 #[vR a0] [(.ref ty)]) s₁ (entryFrame m #[(.ref a0)] 1) := fun t k => pre242 t (st243 t k)
 obtain ⟨a245, T245, h245, k245, b245, kb245, X245, e245, E245, hS245, hk245, hZ245, ho245, Ea245, Ca245, Va245, Ab245, la245, lb245, hC245, -, hn245, st245⟩ := ldcCH (s := s) (vm0 := s.vm) X243 hx hZ hown (own_w hw 78 rfl) (own_strW hw) e243 hS0 (Nat.zero_le _) hEL (List.mem_of_getElem? (i := 0) rfl) hCR0.1 (vs := [(.int 49)]) (z := (1 : Int32)) ⟨by decide, rfl⟩ (by decide) rfl (g := (mkF m 4 #[vR a0] [(.ref ty)])) rfl (hb hby d10_4) (n := 4) (by decide) (by decide) (by decide) (by decide)
 have CR245 := hCR0.trans hC245
 have Z245 : n0 ≤ h245.size := Nat.le_trans Z0 E245.1
 have K245 : Keep h0 h245 [] := (Keep.refl h0 []).ext E245
 have Ef246 : Exa Z h245 a0 own_GU := (E_a0).ext E245
 have Ff247 : Fld Z h245 a0 own_GU "type" "Ljava/util/Optional;" (.ref ty) := (F_type_a0).ext E245
 have Ef248 : Exa Z h245 ty "java/util/Optional" := (E_ty).ext E245
 have Ff249 : Fld Z h245 ty "java/util/Optional" "value" "Ljava/lang/Object;" (.ref r1) := (F_value_ty).ext E245
 have Ef250 : Exa Z h245 r1 "java/lang/String" := (E_r1).ext E245
 have pre251 : own_P p e below T245 (mkF m 6 #[vR a0] [(.ref a245), (.ref ty)]) s₁ (entryFrame m #[(.ref a0)] 1) := fun t k => pre244 t (st245 t k)
 obtain ⟨cq252, kq252, q252a, q252b, q252c⟩ := isOf hZ245 e245 Ef248
 obtain ⟨_, _, ⟨T252, L252, k252, n252⟩, -, X252, ⟨Lc252, hQ252, l252, y252, z252⟩, st252⟩ := X245.virtualBack hx (y := (⟨"java/util/Optional", "orElse", "(Ljava/lang/Object;)Ljava/lang/Object;"⟩ : MethodName)) (z := (⟨"java/util/Optional", "orElse", "(Ljava/lang/Object;)Ljava/lang/Object;"⟩ : MethodName)) ho245 (mvT hZ245 (own_w hw 79 rfl)) (mvT hZ245 (own_w hw 80 rfl)) (notFace_of_selects (args := #[]) (mvT hZ245 (own_w hw 82 rfl))) (mvT hZ245 (own_w hw 82 rfl)) (mvT hZ245 (own_w hw 81 rfl)) (by decide) (backOf (W := 0) (rm11_y l Z ar0 hw [] ty a245 r1 h245 n0 Z245 Ff249) hZ245 (own_w hw 83 rfl) (own_w hw 29 rfl) (by decide) (by decide)) q252a q252c (g := (mkF m 6 #[vR a0] [(.ref a245), (.ref ty)])) rfl (by rw [hml]; rfl) (Steps.refl _) (argsL := [(.ref a245)]) (rest := []) (lenOf pd_3 rfl) rfl (by show 2 * 0 + _ ≤ _; exact Nat.le_of_eq rfl) (hb hby d10_6) (fun _ _ => ⟨rfl, e245, (by decide : 2 + 0 ≤ _), (by decide : 8 + 0 ≤ _)⟩)
 dsimp only [Pt.U, Pt.locs, Pt.cells, Pt.slots] at X252 l252 y252 z252 st252 hQ252
 subst l252 y252 z252
 obtain ⟨rfl, N252q, e252⟩ := hQ252
 have N252 := Fr.app N0 N252q
 have pre253 : own_P p e below T252 (mkF m 9 #[vR a0] [(.ref r1)]) s₁ (entryFrame m #[(.ref a0)] 1) := fun t k => pre251 t (st252.trans k)
 obtain ⟨T254, X254, e254, st254⟩ := castY X252 hx hZ245 ho245 (own_w hw 86 rfl) e252 (Ins.self Ef250) (g := (mkF m 9 #[vR a0] [(.ref r1)])) rfl rfl (hb hby d10_9)
 have pre255 : own_P p e below T254 (mkF m 12 #[vR a0] [(.ref r1)]) s₁ (entryFrame m #[(.ref a0)] 1) := fun t k => pre253 t (st254 t k)
 obtain ⟨fs, hr, hrun, hended, hRW⟩ := X254.leaveW (s := s) (vm₁ := T245.vm) hS245 (by rw [e254]; first | exact hk245 | exact Nat.le_refl _) (v := some (.ref r1)) (fun h => by rw [Bd.returns] at h; cases h)
 refine ⟨_, _, pre255 _ ?_, hrun, hended, _, _, rfl, ?_, ?_, hRW.1, hRW.2.1, hRW.2.2.1, hRW.2.2.2.mono (by decide) (by decide)⟩
 ·
  exact retOut X254 hx Bd.returns rfl (Or.inr (Or.inr (Or.inr (Or.inr ⟨rfl, rfl, rfl⟩)))) (hb hby d10_12) hr
 ·
  show Q10_y Z a0 ty r1 h0 n0 _ T254.heap _
  rw [e254]
  exact ⟨rfl, N252, K245⟩
 ·
  have q := CR245.trans (CHv.at X254 hZ245 hEL CR245.1)
  rw [hh]
  show CHr _ _ _ _ T254.vm T254.heap
  rw [e254]
  exact q
def Q10_n (Z : State) (a0 : Addr) (ty : Addr) (h0 : Heap) (n0 : Nat) (v : Option Value) (h : Heap) (L : List Loc) : Prop := ∃ (o : Addr) (t : Addr) (k_t : ClassId), v = some (.ref o) ∧ Fr n0 L ∧ Keep h0 h [] ∧ Exa Z h o "java/lang/String" ∧ Fld Z h o "java/lang/String" "coder" "B" (.int 0) ∧ Fld Z h o "java/lang/String" "value" "[B" (.ref t) ∧ Arv Z h t k_t .byte (1 : Int32) ((([49] : List Int32).map (fun c => c.toInt8.toInt32)).map Value.int) (.int 0)
set_option maxRecDepth 65536 in
set_option maxHeartbeats 40000000 in
theorem rm10_n (l : Launch) (Z : State) (ar0 : Array Value) (hw : ∀ d ∈ tables_1, d.before ar0 Z = true) (ws : List Jvm.Cond) (a0 : Addr) (ty : Addr) (h0 : Heap) (n0 : Nat) (Z0 : n0 ≤ h0.size) (E_a0 : Exa Z h0 a0 own_GU) (F_type_a0 : Fld Z h0 a0 own_GU "type" "Ljava/util/Optional;" (.ref ty)) (E_ty : Exa Z h0 ty "java/util/Optional") (F_value_ty : Fld Z h0 ty "java/util/Optional" "value" "Ljava/lang/Object;" .null) :
  MetFree l (⟨own_GU, "effectiveType", "()Ljava/lang/String;"⟩ : MethodName) (head1 (Jvm.Cond.code (⟨own_GU, "effectiveType", "()Ljava/lang/String;"⟩ : MethodName) prog_33_method_3_code 1 (some (.object "java/lang/String")) :: ws) ({ frames := 1, cells := 2, slots := 8, locals := 13 } : Room)) (fun a U => a = #[(.ref a0)] ∧ Z.Warmed39 U.vm ∧ U.heap = h0 ∧ CHv Z own_EL U.vm h0) (fun _ _ _ _ _ => True) (fun _ U o U' => ∃ v L, o = .returned v ∧ Q10_n Z a0 ty h0 n0 v U'.heap L ∧ CHr Z own_EL U.vm U.heap U'.vm U'.heap ∧ ReturnedEndW U o U' L ({ frames := 1, cells := 2, slots := 8, locals := 13 } : Room).cells ({ frames := 1, cells := 2, slots := 8, locals := 13 } : Room).slots) := by
 refine MetFree.of_bodySF (plainFor_of_name pn_5) hisR ?_
 intro p e s m args below meth c s₁ Bd hml0 hP hK
 obtain ⟨rfl, hZ, hh, hC0⟩ := hP
 have hx := Bd.exec
 have hby := Bd.bytes
 have hml : c.maxLocals = 1 := hml0
 have hown : s.vm.findClass own_GU = some m.cls := by have q := findClass_of_methodNamed Bd.named; exact q
 have hnm := (name_of_methodNamed Bd.named Bd.method).1
 have X0 : Stand p l e ({ frames := 1, cells := 2, slots := 8, locals := 13 } : Room) s m #[(.ref a0)] below meth c s₁ [] 0 0 := Stand.of_body Bd
 have e0 : s₁.heap = h0 := by rw [← hh, Bd.state]; rfl
 have N0 := Fr.nil n0
 have hS0 : s.Since s.vm 0 := own_since0 s
 have hCR0 : CHr Z own_EL s.vm h0 s.vm h0 := CHr.refl hC0
 have hEL : EW Z ar0 own_EL := own_EW hw
 have pre0 : own_P p e below s₁ (mkF m 0 #[vR a0] []) s₁ (entryFrame m #[(.ref a0)] 1) := fun t k => castTop (ef_10 m a0) k
 have pre256 : own_P p e below s₁ (mkF m 1 #[vR a0] [(.ref a0)]) s₁ (entryFrame m #[(.ref a0)] 1) := by
  intro t k
  refine pre0 t ?_
  refine XS.aloadN X0.here hx rfl (hb hby d10_0) rfl rfl ?_
  exact k
 obtain ⟨T257, X257, e257, st257⟩ := getF X0 hx hZ hown (host := "") (Or.inl (own_w hw 65 rfl)) Via.refl e0 F_type_a0 (g := (mkF m 1 #[vR a0] [(.ref a0)])) rfl rfl (hb hby d10_1)
 have pre258 : own_P p e below T257 (mkF m 4 #[vR a0] [(.ref ty)]) s₁ (entryFrame m #[(.ref a0)] 1) := fun t k => pre256 t (st257 t k)
 obtain ⟨a259, T259, h259, k259, b259, kb259, X259, e259, E259, hS259, hk259, hZ259, ho259, Ea259, Ca259, Va259, Ab259, la259, lb259, hC259, -, hn259, st259⟩ := ldcCH (s := s) (vm0 := s.vm) X257 hx hZ hown (own_w hw 78 rfl) (own_strW hw) e257 hS0 (Nat.zero_le _) hEL (List.mem_of_getElem? (i := 0) rfl) hCR0.1 (vs := [(.int 49)]) (z := (1 : Int32)) ⟨by decide, rfl⟩ (by decide) rfl (g := (mkF m 4 #[vR a0] [(.ref ty)])) rfl (hb hby d10_4) (n := 4) (by decide) (by decide) (by decide) (by decide)
 have CR259 := hCR0.trans hC259
 have Z259 : n0 ≤ h259.size := Nat.le_trans Z0 E259.1
 have K259 : Keep h0 h259 [] := (Keep.refl h0 []).ext E259
 have Ef260 : Exa Z h259 a0 own_GU := (E_a0).ext E259
 have Ff261 : Fld Z h259 a0 own_GU "type" "Ljava/util/Optional;" (.ref ty) := (F_type_a0).ext E259
 have Ef262 : Exa Z h259 ty "java/util/Optional" := (E_ty).ext E259
 have Ff263 : Fld Z h259 ty "java/util/Optional" "value" "Ljava/lang/Object;" .null := (F_value_ty).ext E259
 have pre264 : own_P p e below T259 (mkF m 6 #[vR a0] [(.ref a259), (.ref ty)]) s₁ (entryFrame m #[(.ref a0)] 1) := fun t k => pre258 t (st259 t k)
 obtain ⟨cq265, kq265, q265a, q265b, q265c⟩ := isOf hZ259 e259 Ef262
 obtain ⟨_, _, ⟨T265, L265, k265, n265⟩, -, X265, ⟨Lc265, hQ265, l265, y265, z265⟩, st265⟩ := X259.virtualBack hx (y := (⟨"java/util/Optional", "orElse", "(Ljava/lang/Object;)Ljava/lang/Object;"⟩ : MethodName)) (z := (⟨"java/util/Optional", "orElse", "(Ljava/lang/Object;)Ljava/lang/Object;"⟩ : MethodName)) ho259 (mvT hZ259 (own_w hw 79 rfl)) (mvT hZ259 (own_w hw 80 rfl)) (notFace_of_selects (args := #[]) (mvT hZ259 (own_w hw 82 rfl))) (mvT hZ259 (own_w hw 82 rfl)) (mvT hZ259 (own_w hw 81 rfl)) (by decide) (backOf (W := 0) (rm11_n l Z ar0 hw [] ty a259 h259 n0 Z259 Ff263) hZ259 (own_w hw 83 rfl) (own_w hw 29 rfl) (by decide) (by decide)) q265a q265c (g := (mkF m 6 #[vR a0] [(.ref a259), (.ref ty)])) rfl (by rw [hml]; rfl) (Steps.refl _) (argsL := [(.ref a259)]) (rest := []) (lenOf pd_3 rfl) rfl (by show 2 * 0 + _ ≤ _; exact Nat.le_of_eq rfl) (hb hby d10_6) (fun _ _ => ⟨rfl, e259, (by decide : 2 + 0 ≤ _), (by decide : 8 + 0 ≤ _)⟩)
 dsimp only [Pt.U, Pt.locs, Pt.cells, Pt.slots] at X265 l265 y265 z265 st265 hQ265
 subst l265 y265 z265
 obtain ⟨rfl, N265q, e265⟩ := hQ265
 have N265 := Fr.app N0 N265q
 have pre266 : own_P p e below T265 (mkF m 9 #[vR a0] [(.ref a259)]) s₁ (entryFrame m #[(.ref a0)] 1) := fun t k => pre264 t (st265.trans k)
 obtain ⟨T267, X267, e267, st267⟩ := castY X265 hx hZ259 ho259 (own_w hw 86 rfl) e265 (Ins.self Ea259) (g := (mkF m 9 #[vR a0] [(.ref a259)])) rfl rfl (hb hby d10_9)
 have pre268 : own_P p e below T267 (mkF m 12 #[vR a0] [(.ref a259)]) s₁ (entryFrame m #[(.ref a0)] 1) := fun t k => pre266 t (st267 t k)
 obtain ⟨fs, hr, hrun, hended, hRW⟩ := X267.leaveW (s := s) (vm₁ := T259.vm) hS259 (by rw [e267]; first | exact hk259 | exact Nat.le_refl _) (v := some (.ref a259)) (fun h => by rw [Bd.returns] at h; cases h)
 refine ⟨_, _, pre268 _ ?_, hrun, hended, _, _, rfl, ?_, ?_, hRW.1, hRW.2.1, hRW.2.2.1, hRW.2.2.2.mono (by decide) (by decide)⟩
 ·
  exact retOut X267 hx Bd.returns rfl (Or.inr (Or.inr (Or.inr (Or.inr ⟨rfl, rfl, rfl⟩)))) (hb hby d10_12) hr
 ·
  show Q10_n Z a0 ty h0 n0 _ T267.heap _
  rw [e267]
  exact ⟨a259, b259, kb259, rfl, N265, K259, Ea259, Ca259, Va259, Ab259⟩
 ·
  have q := CR259.trans (CHv.at X267 hZ259 hEL CR259.1)
  rw [hh]
  show CHr _ _ _ _ T267.vm T267.heap
  rw [e267]
  exact q
theorem pd_7 : parseMethodDescriptor "(C)Ljava/lang/String;" = some ⟨[.char], some (.object "java/lang/String")⟩ := by decide +kernel
theorem pd_8 : parseMethodDescriptor "([C)V" = some ⟨[(.array .char)], none⟩ := by decide +kernel
theorem pd_9 : parseMethodDescriptor "()Ljava/util/Optional;" = some ⟨[], some (.object "java/util/Optional")⟩ := by decide +kernel
theorem pd_10 : parseMethodDescriptor "(Ljava/lang/Object;)Ljava/util/Optional;" = some ⟨[(.object "java/lang/Object")], some (.object "java/util/Optional")⟩ := by decide +kernel
theorem pd_11 : parseMethodDescriptor "(Ljava/lang/String;Ljava/lang/String;Ljava/util/Optional;Ljava/util/Optional;Ljava/lang/String;Ljava/util/Optional;Ljava/util/Optional;)V" = some ⟨[(.object "java/lang/String"), (.object "java/lang/String"), (.object "java/util/Optional"), (.object "java/util/Optional"), (.object "java/lang/String"), (.object "java/util/Optional"), (.object "java/util/Optional")], none⟩ := by decide +kernel
theorem pd_12 : parseMethodDescriptor "()Ljava/lang/String;" = some ⟨[], some (.object "java/lang/String")⟩ := by decide +kernel
theorem pd_13 : parseMethodDescriptor "()I" = some ⟨[], some .int⟩ := by decide +kernel
theorem pd_14 : parseMethodDescriptor "(I)C" = some ⟨[.int], some .char⟩ := by decide +kernel
theorem pd_15 : parseMethodDescriptor "(Ljava/lang/Object;)Z" = some ⟨[(.object "java/lang/Object")], some .boolean⟩ := by decide +kernel
theorem pn_6 : plainName "com/example/strict_url/stricturl/url/GopherUrlEffectiveTypePinLaw" = true := by first | (simp [plainName, overriddenIn]; done) | decide +kernel
theorem ef_0 (m : MethodId) (x0 : Int32) (x1 : Int32) (x2 : Int32) (x3 : Int32) (x4 : Int32) : entryFrame m #[(.int x0), (.int x1), (.int x2), (.int x3), (.int x4)] maxLocals = mkF m 0 #[vI x0, vI x1, vI x2, vI x3, vI x4, .unset, .unset, .unset, .unset, .unset, .unset, .unset, .unset, .unset, .unset, .unset, .unset, .unset, .unset, .unset, .unset] [] := by first | (simp [entryFrame, mkF, argsToLocals, Value.category, maxLocals]; done) | rfl
def Q0 (Z : State) (p0 : Int32) (p1 : Int32) (p2 : Int32) (p3 : Int32) (p4 : Int32) (gc1 : Int32) (gf3 : Value) (s_EMPTY : Addr) (h0 : Heap) (n0 : Nat) (v : Option Value) (h : Heap) (L : List Loc) : Prop := v = some (.int 1) ∧ Fr n0 L
set_option maxRecDepth 65536 in
set_option maxHeartbeats 40000000 in
theorem rm0 (l : Launch) (Z : State) (ar0 : Array Value) (hw : ∀ d ∈ tables_1, d.before ar0 Z = true) (ws : List Jvm.Cond) (p0 : Int32) (p1 : Int32) (p2 : Int32) (p3 : Int32) (p4 : Int32) (gc1 : Int32) (gf3 : Value) (s_EMPTY : Addr) (h0 : Heap) (n0 : Nat) (Z0 : n0 ≤ h0.size) (P5 : ¬ (gc1 = (0 : Int32))) (rG3 : gf3.isRef = true) (S_COMPACT_STRINGS : Sta Z h0 "java/lang/String" "COMPACT_STRINGS" "Z" (.int gc1)) (S_SIOOBE_FORMATTER : Sta Z h0 "jdk/internal/util/Preconditions" "SIOOBE_FORMATTER" "Ljava/util/function/BiFunction;" gf3) (S_EMPTY : Sta Z h0 "java/util/Optional" "EMPTY" "Ljava/util/Optional;" (.ref s_EMPTY)) (E_s_EMPTY : Exa Z h0 s_EMPTY "java/util/Optional") (F_value_s_EMPTY : Fld Z h0 s_EMPTY "java/util/Optional" "value" "Ljava/lang/Object;" .null) :
  MetFree l x (head1 (Jvm.Cond.code x code maxLocals ret :: ws) room_1) (fun a U => a = #[(.int p0), (.int p1), (.int p2), (.int p3), (.int p4)] ∧ Z.Warmed39 U.vm ∧ U.heap = h0 ∧ CHv Z own_EL U.vm h0) (fun _ _ _ _ _ => True) (fun _ U o U' => ∃ v L, o = .returned v ∧ Q0 Z p0 p1 p2 p3 p4 gc1 gf3 s_EMPTY h0 n0 v U'.heap L ∧ ReturnedEndW U o U' L room_1.cells room_1.slots) := by
 refine MetFree.of_bodySF (plainFor_of_name pn_6) hisR ?_
 intro p e s m args below meth c s₁ Bd hml0 hP hK
 obtain ⟨rfl, hZ, hh, hC0⟩ := hP
 have hx := Bd.exec
 have hby := Bd.bytes
 have hml : c.maxLocals = 21 := hml0
 have hown : s.vm.findClass "com/example/strict_url/stricturl/url/GopherUrlEffectiveTypePinLaw" = some m.cls := by have q := findClass_of_methodNamed Bd.named; exact q
 have hnm := (name_of_methodNamed Bd.named Bd.method).1
 have X0 : Stand p l e room_1 s m #[(.int p0), (.int p1), (.int p2), (.int p3), (.int p4)] below meth c s₁ [] 0 0 := Stand.of_body Bd
 have e0 : s₁.heap = h0 := by rw [← hh, Bd.state]; rfl
 have N0 := Fr.nil n0
 have hS0 : s.Since s.vm 0 := own_since0 s
 have hCR0 : CHr Z own_EL s.vm h0 s.vm h0 := CHr.refl hC0
 have hEL : EW Z ar0 own_EL := own_EW hw
 have pre0 : own_P p e below s₁ (mkF m 0 #[vI p0, vI p1, vI p2, vI p3, vI p4, .unset, .unset, .unset, .unset, .unset, .unset, .unset, .unset, .unset, .unset, .unset, .unset, .unset, .unset, .unset, .unset] []) s₁ (own_E m p0 p1 p2 p3 p4) := fun t k => castTop (ef_0 m p0 p1 p2 p3 p4) k
 have pre269 : own_P p e below s₁ (mkF m 3 #[vI p0, vI p1, vI p2, vI p3, vI p4, .unset, .unset, .unset, .unset, .unset, .unset, .unset, .unset, .unset, .unset, .unset, .unset, .unset, .unset, .unset, .unset] [(.int (p0 &&& (1 : Int32)))]) s₁ (own_E m p0 p1 p2 p3 p4) := by
  intro t k
  refine pre0 t ?_
  refine XS.iloadN X0.here hx rfl (hb hby at_0) rfl ?_
  refine XS.iconst X0.here hx rfl (hb hby at_1) ?_
  refine XS.iand X0.here hx rfl (hb hby at_2) rfl ?_
  exact k
 obtain ⟨v273, pre274, hv273⟩ : ∃ (v273 : Int32), (∀ t, Steps p.tables e below (s₁.setTop (mkF m 11 #[vI p0, vI p1, vI p2, vI p3, vI p4, .unset, .unset, .unset, .unset, .unset, .unset, .unset, .unset, .unset, .unset, .unset, .unset, .unset, .unset, .unset, .unset] [(.int v273)])) t → Steps p.tables e below (s₁.setTop (entryFrame m #[(.int p0), (.int p1), (.int p2), (.int p3), (.int p4)] maxLocals)) t) ∧ v273 = (if (p0 &&& (1 : Int32)) = (0 : Int32) then (0 : Int32) else (1 : Int32)) := by
  by_cases hc3_270 : (p0 &&& (1 : Int32)) = (0 : Int32)
  ·
   have pre271 : ∀ t, Steps p.tables e below (s₁.setTop (mkF m 11 #[vI p0, vI p1, vI p2, vI p3, vI p4, .unset, .unset, .unset, .unset, .unset, .unset, .unset, .unset, .unset, .unset, .unset, .unset, .unset, .unset, .unset, .unset] [(.int 0)])) t → Steps p.tables e below (s₁.setTop (own_E m p0 p1 p2 p3 p4)) t := by
    intro t k
    refine pre269 t ?_
    refine XS.ifYes X0.here hx rfl (pc0 := 3) (pc' := 10) rfl (hb hby at_3) rfl ((if0 _ _).trans (teq hc3_270).1) (by decide) (by decide) ?_
    refine XS.iconst X0.here hx rfl (hb hby at_10) ?_
    exact k
   exact ⟨(0 : Int32), pre271, by rw [if_pos hc3_270]⟩
  ·
   have pre272 : ∀ t, Steps p.tables e below (s₁.setTop (mkF m 11 #[vI p0, vI p1, vI p2, vI p3, vI p4, .unset, .unset, .unset, .unset, .unset, .unset, .unset, .unset, .unset, .unset, .unset, .unset, .unset, .unset, .unset, .unset] [(.int 1)])) t → Steps p.tables e below (s₁.setTop (own_E m p0 p1 p2 p3 p4)) t := by
    intro t k
    refine pre269 t ?_
    refine XS.ifNo X0.here hx rfl (hb hby at_3) rfl ((if0 _ _).trans (feq hc3_270).1) ?_
    refine XS.iconst X0.here hx rfl (hb hby at_6) ?_
    refine XS.goto X0.here hx rfl (pc0 := 7) (pc' := 11) rfl (hb hby at_7) (by decide) (by decide) ?_
    exact k
   exact ⟨(1 : Int32), pre272, by rw [if_neg hc3_270]⟩
 have pre275 : own_P p e below s₁ (mkF m 16 #[vI p0, vI p1, vI p2, vI p3, vI p4, vI v273, .unset, .unset, .unset, .unset, .unset, .unset, .unset, .unset, .unset, .unset, .unset, .unset, .unset, .unset, .unset] [(.int (p0 &&& (2 : Int32)))]) s₁ (own_E m p0 p1 p2 p3 p4) := by
  intro t k
  refine pre274 t ?_
  refine XS.istore X0.here hx rfl (hb hby at_11) rfl (l' := #[vI p0, vI p1, vI p2, vI p3, vI p4, vI v273, .unset, .unset, .unset, .unset, .unset, .unset, .unset, .unset, .unset, .unset, .unset, .unset, .unset, .unset, .unset]) rfl ?_
  refine XS.iloadN X0.here hx rfl (hb hby at_13) rfl ?_
  refine XS.iconst X0.here hx rfl (hb hby at_14) ?_
  refine XS.iand X0.here hx rfl (hb hby at_15) rfl ?_
  exact k
 obtain ⟨v279, pre280, hv279⟩ : ∃ (v279 : Int32), (∀ t, Steps p.tables e below (s₁.setTop (mkF m 24 #[vI p0, vI p1, vI p2, vI p3, vI p4, vI v273, .unset, .unset, .unset, .unset, .unset, .unset, .unset, .unset, .unset, .unset, .unset, .unset, .unset, .unset, .unset] [(.int v279)])) t → Steps p.tables e below (s₁.setTop (entryFrame m #[(.int p0), (.int p1), (.int p2), (.int p3), (.int p4)] maxLocals)) t) ∧ v279 = (if (p0 &&& (2 : Int32)) = (0 : Int32) then (0 : Int32) else (1 : Int32)) := by
  by_cases hc16_276 : (p0 &&& (2 : Int32)) = (0 : Int32)
  ·
   have pre277 : ∀ t, Steps p.tables e below (s₁.setTop (mkF m 24 #[vI p0, vI p1, vI p2, vI p3, vI p4, vI v273, .unset, .unset, .unset, .unset, .unset, .unset, .unset, .unset, .unset, .unset, .unset, .unset, .unset, .unset, .unset] [(.int 0)])) t → Steps p.tables e below (s₁.setTop (own_E m p0 p1 p2 p3 p4)) t := by
    intro t k
    refine pre275 t ?_
    refine XS.ifYes X0.here hx rfl (pc0 := 16) (pc' := 23) rfl (hb hby at_16) rfl ((if0 _ _).trans (teq hc16_276).1) (by decide) (by decide) ?_
    refine XS.iconst X0.here hx rfl (hb hby at_23) ?_
    exact k
   exact ⟨(0 : Int32), pre277, by rw [if_pos hc16_276]⟩
  ·
   have pre278 : ∀ t, Steps p.tables e below (s₁.setTop (mkF m 24 #[vI p0, vI p1, vI p2, vI p3, vI p4, vI v273, .unset, .unset, .unset, .unset, .unset, .unset, .unset, .unset, .unset, .unset, .unset, .unset, .unset, .unset, .unset] [(.int 1)])) t → Steps p.tables e below (s₁.setTop (own_E m p0 p1 p2 p3 p4)) t := by
    intro t k
    refine pre275 t ?_
    refine XS.ifNo X0.here hx rfl (hb hby at_16) rfl ((if0 _ _).trans (feq hc16_276).1) ?_
    refine XS.iconst X0.here hx rfl (hb hby at_19) ?_
    refine XS.goto X0.here hx rfl (pc0 := 20) (pc' := 24) rfl (hb hby at_20) (by decide) (by decide) ?_
    exact k
   exact ⟨(1 : Int32), pre278, by rw [if_neg hc16_276]⟩
 have pre281 : own_P p e below s₁ (mkF m 29 #[vI p0, vI p1, vI p2, vI p3, vI p4, vI v273, vI v279, .unset, .unset, .unset, .unset, .unset, .unset, .unset, .unset, .unset, .unset, .unset, .unset, .unset, .unset] [(.int (p0 &&& (4 : Int32)))]) s₁ (own_E m p0 p1 p2 p3 p4) := by
  intro t k
  refine pre280 t ?_
  refine XS.istore X0.here hx rfl (hb hby at_24) rfl (l' := #[vI p0, vI p1, vI p2, vI p3, vI p4, vI v273, vI v279, .unset, .unset, .unset, .unset, .unset, .unset, .unset, .unset, .unset, .unset, .unset, .unset, .unset, .unset]) rfl ?_
  refine XS.iloadN X0.here hx rfl (hb hby at_26) rfl ?_
  refine XS.iconst X0.here hx rfl (hb hby at_27) ?_
  refine XS.iand X0.here hx rfl (hb hby at_28) rfl ?_
  exact k
 obtain ⟨v285, pre286, hv285⟩ : ∃ (v285 : Int32), (∀ t, Steps p.tables e below (s₁.setTop (mkF m 37 #[vI p0, vI p1, vI p2, vI p3, vI p4, vI v273, vI v279, .unset, .unset, .unset, .unset, .unset, .unset, .unset, .unset, .unset, .unset, .unset, .unset, .unset, .unset] [(.int v285)])) t → Steps p.tables e below (s₁.setTop (entryFrame m #[(.int p0), (.int p1), (.int p2), (.int p3), (.int p4)] maxLocals)) t) ∧ v285 = (if (p0 &&& (4 : Int32)) = (0 : Int32) then (0 : Int32) else (1 : Int32)) := by
  by_cases hc29_282 : (p0 &&& (4 : Int32)) = (0 : Int32)
  ·
   have pre283 : ∀ t, Steps p.tables e below (s₁.setTop (mkF m 37 #[vI p0, vI p1, vI p2, vI p3, vI p4, vI v273, vI v279, .unset, .unset, .unset, .unset, .unset, .unset, .unset, .unset, .unset, .unset, .unset, .unset, .unset, .unset] [(.int 0)])) t → Steps p.tables e below (s₁.setTop (own_E m p0 p1 p2 p3 p4)) t := by
    intro t k
    refine pre281 t ?_
    refine XS.ifYes X0.here hx rfl (pc0 := 29) (pc' := 36) rfl (hb hby at_29) rfl ((if0 _ _).trans (teq hc29_282).1) (by decide) (by decide) ?_
    refine XS.iconst X0.here hx rfl (hb hby at_36) ?_
    exact k
   exact ⟨(0 : Int32), pre283, by rw [if_pos hc29_282]⟩
  ·
   have pre284 : ∀ t, Steps p.tables e below (s₁.setTop (mkF m 37 #[vI p0, vI p1, vI p2, vI p3, vI p4, vI v273, vI v279, .unset, .unset, .unset, .unset, .unset, .unset, .unset, .unset, .unset, .unset, .unset, .unset, .unset, .unset] [(.int 1)])) t → Steps p.tables e below (s₁.setTop (own_E m p0 p1 p2 p3 p4)) t := by
    intro t k
    refine pre281 t ?_
    refine XS.ifNo X0.here hx rfl (hb hby at_29) rfl ((if0 _ _).trans (feq hc29_282).1) ?_
    refine XS.iconst X0.here hx rfl (hb hby at_32) ?_
    refine XS.goto X0.here hx rfl (pc0 := 33) (pc' := 37) rfl (hb hby at_33) (by decide) (by decide) ?_
    exact k
   exact ⟨(1 : Int32), pre284, by rw [if_neg hc29_282]⟩
 have pre287 : own_P p e below s₁ (mkF m 43 #[vI p0, vI p1, vI p2, vI p3, vI p4, vI v273, vI v279, vI v285, .unset, .unset, .unset, .unset, .unset, .unset, .unset, .unset, .unset, .unset, .unset, .unset, .unset] [(.int (p0 &&& (8 : Int32)))]) s₁ (own_E m p0 p1 p2 p3 p4) := by
  intro t k
  refine pre286 t ?_
  refine XS.istore X0.here hx rfl (hb hby at_37) rfl (l' := #[vI p0, vI p1, vI p2, vI p3, vI p4, vI v273, vI v279, vI v285, .unset, .unset, .unset, .unset, .unset, .unset, .unset, .unset, .unset, .unset, .unset, .unset, .unset]) rfl ?_
  refine XS.iloadN X0.here hx rfl (hb hby at_39) rfl ?_
  refine XS.bipush X0.here hx rfl (hb hby at_40) ?_
  refine XS.iand X0.here hx rfl (hb hby at_42) rfl ?_
  exact k
 obtain ⟨v291, pre292, hv291⟩ : ∃ (v291 : Int32), (∀ t, Steps p.tables e below (s₁.setTop (mkF m 51 #[vI p0, vI p1, vI p2, vI p3, vI p4, vI v273, vI v279, vI v285, .unset, .unset, .unset, .unset, .unset, .unset, .unset, .unset, .unset, .unset, .unset, .unset, .unset] [(.int v291)])) t → Steps p.tables e below (s₁.setTop (entryFrame m #[(.int p0), (.int p1), (.int p2), (.int p3), (.int p4)] maxLocals)) t) ∧ v291 = (if (p0 &&& (8 : Int32)) = (0 : Int32) then (0 : Int32) else (1 : Int32)) := by
  by_cases hc43_288 : (p0 &&& (8 : Int32)) = (0 : Int32)
  ·
   have pre289 : ∀ t, Steps p.tables e below (s₁.setTop (mkF m 51 #[vI p0, vI p1, vI p2, vI p3, vI p4, vI v273, vI v279, vI v285, .unset, .unset, .unset, .unset, .unset, .unset, .unset, .unset, .unset, .unset, .unset, .unset, .unset] [(.int 0)])) t → Steps p.tables e below (s₁.setTop (own_E m p0 p1 p2 p3 p4)) t := by
    intro t k
    refine pre287 t ?_
    refine XS.ifYes X0.here hx rfl (pc0 := 43) (pc' := 50) rfl (hb hby at_43) rfl ((if0 _ _).trans (teq hc43_288).1) (by decide) (by decide) ?_
    refine XS.iconst X0.here hx rfl (hb hby at_50) ?_
    exact k
   exact ⟨(0 : Int32), pre289, by rw [if_pos hc43_288]⟩
  ·
   have pre290 : ∀ t, Steps p.tables e below (s₁.setTop (mkF m 51 #[vI p0, vI p1, vI p2, vI p3, vI p4, vI v273, vI v279, vI v285, .unset, .unset, .unset, .unset, .unset, .unset, .unset, .unset, .unset, .unset, .unset, .unset, .unset] [(.int 1)])) t → Steps p.tables e below (s₁.setTop (own_E m p0 p1 p2 p3 p4)) t := by
    intro t k
    refine pre287 t ?_
    refine XS.ifNo X0.here hx rfl (hb hby at_43) rfl ((if0 _ _).trans (feq hc43_288).1) ?_
    refine XS.iconst X0.here hx rfl (hb hby at_46) ?_
    refine XS.goto X0.here hx rfl (pc0 := 47) (pc' := 51) rfl (hb hby at_47) (by decide) (by decide) ?_
    exact k
   exact ⟨(1 : Int32), pre290, by rw [if_neg hc43_288]⟩
 have pre293 : own_P p e below s₁ (mkF m 59 #[vI p0, vI p1, vI p2, vI p3, vI p4, vI v273, vI v279, vI v285, vI v291, .unset, .unset, .unset, .unset, .unset, .unset, .unset, .unset, .unset, .unset, .unset, .unset] [(.int ((p1 &&& (255 : Int32)).toUInt32.toUInt16.toUInt32.toInt32))]) s₁ (own_E m p0 p1 p2 p3 p4) := by
  intro t k
  refine pre292 t ?_
  refine XS.istore X0.here hx rfl (hb hby at_51) rfl (l' := #[vI p0, vI p1, vI p2, vI p3, vI p4, vI v273, vI v279, vI v285, vI v291, .unset, .unset, .unset, .unset, .unset, .unset, .unset, .unset, .unset, .unset, .unset, .unset]) rfl ?_
  refine XS.iloadN X0.here hx rfl (hb hby at_53) rfl ?_
  refine XS.sipush X0.here hx rfl (hb hby at_54) ?_
  refine XS.iand X0.here hx rfl (hb hby at_57) rfl ?_
  refine XS.i2c X0.here hx rfl (hb hby at_58) rfl ?_
  exact k
 obtain ⟨v294, hv294⟩ : ∃ z : Int32, z = ((p1 &&& (255 : Int32)).toUInt32.toUInt16.toUInt32.toInt32) := ⟨_, rfl⟩
 have pre295 : own_P p e below s₁ (mkF m 59 #[vI p0, vI p1, vI p2, vI p3, vI p4, vI v273, vI v279, vI v285, vI v291, .unset, .unset, .unset, .unset, .unset, .unset, .unset, .unset, .unset, .unset, .unset, .unset] [(.int v294)]) s₁ (own_E m p0 p1 p2 p3 p4) := by rw [hv294]; exact pre293
 have pre296 : own_P p e below s₁ (mkF m 67 #[vI p0, vI p1, vI p2, vI p3, vI p4, vI v273, vI v279, vI v285, vI v291, vI v294, .unset, .unset, .unset, .unset, .unset, .unset, .unset, .unset, .unset, .unset, .unset] [(.int ((p2 &&& (255 : Int32)).toUInt32.toUInt16.toUInt32.toInt32))]) s₁ (own_E m p0 p1 p2 p3 p4) := by
  intro t k
  refine pre295 t ?_
  refine XS.istore X0.here hx rfl (hb hby at_59) rfl (l' := #[vI p0, vI p1, vI p2, vI p3, vI p4, vI v273, vI v279, vI v285, vI v291, vI v294, .unset, .unset, .unset, .unset, .unset, .unset, .unset, .unset, .unset, .unset, .unset]) rfl ?_
  refine XS.iloadN X0.here hx rfl (hb hby at_61) rfl ?_
  refine XS.sipush X0.here hx rfl (hb hby at_62) ?_
  refine XS.iand X0.here hx rfl (hb hby at_65) rfl ?_
  refine XS.i2c X0.here hx rfl (hb hby at_66) rfl ?_
  exact k
 obtain ⟨v297, hv297⟩ : ∃ z : Int32, z = ((p2 &&& (255 : Int32)).toUInt32.toUInt16.toUInt32.toInt32) := ⟨_, rfl⟩
 have pre298 : own_P p e below s₁ (mkF m 67 #[vI p0, vI p1, vI p2, vI p3, vI p4, vI v273, vI v279, vI v285, vI v291, vI v294, .unset, .unset, .unset, .unset, .unset, .unset, .unset, .unset, .unset, .unset, .unset] [(.int v297)]) s₁ (own_E m p0 p1 p2 p3 p4) := by rw [hv297]; exact pre296
 have pre299 : own_P p e below s₁ (mkF m 75 #[vI p0, vI p1, vI p2, vI p3, vI p4, vI v273, vI v279, vI v285, vI v291, vI v294, vI v297, .unset, .unset, .unset, .unset, .unset, .unset, .unset, .unset, .unset, .unset] [(.int ((p3 &&& (255 : Int32)).toUInt32.toUInt16.toUInt32.toInt32))]) s₁ (own_E m p0 p1 p2 p3 p4) := by
  intro t k
  refine pre298 t ?_
  refine XS.istore X0.here hx rfl (hb hby at_67) rfl (l' := #[vI p0, vI p1, vI p2, vI p3, vI p4, vI v273, vI v279, vI v285, vI v291, vI v294, vI v297, .unset, .unset, .unset, .unset, .unset, .unset, .unset, .unset, .unset, .unset]) rfl ?_
  refine XS.iloadN X0.here hx rfl (hb hby at_69) rfl ?_
  refine XS.sipush X0.here hx rfl (hb hby at_70) ?_
  refine XS.iand X0.here hx rfl (hb hby at_73) rfl ?_
  refine XS.i2c X0.here hx rfl (hb hby at_74) rfl ?_
  exact k
 obtain ⟨v300, hv300⟩ : ∃ z : Int32, z = ((p3 &&& (255 : Int32)).toUInt32.toUInt16.toUInt32.toInt32) := ⟨_, rfl⟩
 have pre301 : own_P p e below s₁ (mkF m 75 #[vI p0, vI p1, vI p2, vI p3, vI p4, vI v273, vI v279, vI v285, vI v291, vI v294, vI v297, .unset, .unset, .unset, .unset, .unset, .unset, .unset, .unset, .unset, .unset] [(.int v300)]) s₁ (own_E m p0 p1 p2 p3 p4) := by rw [hv300]; exact pre299
 have pre302 : own_P p e below s₁ (mkF m 84 #[vI p0, vI p1, vI p2, vI p3, vI p4, vI v273, vI v279, vI v285, vI v291, vI v294, vI v297, vI v300, .unset, .unset, .unset, .unset, .unset, .unset, .unset, .unset, .unset] [(.int ((p4 &&& (255 : Int32)).toUInt32.toUInt16.toUInt32.toInt32))]) s₁ (own_E m p0 p1 p2 p3 p4) := by
  intro t k
  refine pre301 t ?_
  refine XS.istore X0.here hx rfl (hb hby at_75) rfl (l' := #[vI p0, vI p1, vI p2, vI p3, vI p4, vI v273, vI v279, vI v285, vI v291, vI v294, vI v297, vI v300, .unset, .unset, .unset, .unset, .unset, .unset, .unset, .unset, .unset]) rfl ?_
  refine XS.iload X0.here hx rfl (hb hby at_77) rfl ?_
  refine XS.sipush X0.here hx rfl (hb hby at_79) ?_
  refine XS.iand X0.here hx rfl (hb hby at_82) rfl ?_
  refine XS.i2c X0.here hx rfl (hb hby at_83) rfl ?_
  exact k
 obtain ⟨v303, hv303⟩ : ∃ z : Int32, z = ((p4 &&& (255 : Int32)).toUInt32.toUInt16.toUInt32.toInt32) := ⟨_, rfl⟩
 have pre304 : own_P p e below s₁ (mkF m 84 #[vI p0, vI p1, vI p2, vI p3, vI p4, vI v273, vI v279, vI v285, vI v291, vI v294, vI v297, vI v300, .unset, .unset, .unset, .unset, .unset, .unset, .unset, .unset, .unset] [(.int v303)]) s₁ (own_E m p0 p1 p2 p3 p4) := by rw [hv303]; exact pre302
 have pre305 : own_P p e below s₁ (mkF m 87 #[vI p0, vI p1, vI p2, vI p3, vI p4, vI v273, vI v279, vI v285, vI v291, vI v294, vI v297, vI v300, vI v303, .unset, .unset, .unset, .unset, .unset, .unset, .unset, .unset] [(.int 3)]) s₁ (own_E m p0 p1 p2 p3 p4) := by
  intro t k
  refine pre304 t ?_
  refine XS.istore X0.here hx rfl (hb hby at_84) rfl (l' := #[vI p0, vI p1, vI p2, vI p3, vI p4, vI v273, vI v279, vI v285, vI v291, vI v294, vI v297, vI v300, vI v303, .unset, .unset, .unset, .unset, .unset, .unset, .unset, .unset]) rfl ?_
  refine XS.iconst X0.here hx rfl (hb hby at_86) ?_
  exact k
 obtain ⟨T306, h306, k306, X306, e306, E306, A306, C306, st306⟩ := newPE X0 hx hZ (own_w hw 0 rfl) e0 (g := (mkF m 87 #[vI p0, vI p1, vI p2, vI p3, vI p4, vI v273, vI v279, vI v285, vI v291, vI v294, vI v297, vI v300, vI v303, .unset, .unset, .unset, .unset, .unset, .unset, .unset, .unset] [(.int 3)])) rfl (hb hby at_87) rfl (by decide) (cap := 3) (by decide) (by decide) (by decide) (by decide) (ad := "[C") rfl
 obtain ⟨b306, g306⟩ : ∃ z, z = h0.size := ⟨_, rfl⟩
 rw [← g306] at A306 C306 st306
 have ne_s_EMPTY_b306 : s_EMPTY ≠ b306 := Nat.ne_of_lt (Nat.lt_of_lt_of_le (E_s_EMPTY).lt (Nat.le_of_eq g306.symm))
 have g_b306 : n0 ≤ b306 := Nat.le_trans Z0 (Nat.le_of_eq g306.symm)
 have sz_b306 : h0.size ≤ b306 := Nat.le_trans (Keep.refl h0 []).1 (Nat.le_of_eq g306.symm)
 have Z306 : n0 ≤ h306.size := Nat.le_trans Z0 E306.1
 have K306 : Keep h0 h306 [] := (Keep.refl h0 []).ext E306
 have hk306 := Nat.le_trans (Nat.zero_le _) E306.1
 have CR306 := hCR0.trans (CHr.ext E306 hCR0.1)
 have Sf307 : Sta Z h306 "java/lang/String" "COMPACT_STRINGS" "Z" (.int gc1) := (S_COMPACT_STRINGS).ext E306
 have Sf308 : Sta Z h306 "jdk/internal/util/Preconditions" "SIOOBE_FORMATTER" "Ljava/util/function/BiFunction;" gf3 := (S_SIOOBE_FORMATTER).ext E306
 have Sf309 : Sta Z h306 "java/util/Optional" "EMPTY" "Ljava/util/Optional;" (.ref s_EMPTY) := (S_EMPTY).ext E306
 have Ef310 : Exa Z h306 s_EMPTY "java/util/Optional" := (E_s_EMPTY).ext E306
 have Ff311 : Fld Z h306 s_EMPTY "java/util/Optional" "value" "Ljava/lang/Object;" .null := (F_value_s_EMPTY).ext E306
 have V_b306 : Arv Z h306 b306 k306 .char (3 : Int32) [(.int 0), (.int 0), (.int 0)] (.int 0) := (Arv.new A306 (by decide)).pad (pad_rep [] (.int 0) 3)
 have pre312 : own_P p e below T306 (mkF m 89 #[vI p0, vI p1, vI p2, vI p3, vI p4, vI v273, vI v279, vI v285, vI v291, vI v294, vI v297, vI v300, vI v303, .unset, .unset, .unset, .unset, .unset, .unset, .unset, .unset] [(.ref b306)]) s₁ (own_E m p0 p1 p2 p3 p4) := fun t k => pre305 t (st306 t k)
 have pre313 : own_P p e below T306 (mkF m 93 #[vI p0, vI p1, vI p2, vI p3, vI p4, vI v273, vI v279, vI v285, vI v291, vI v294, vI v297, vI v300, vI v303, .unset, .unset, .unset, .unset, .unset, .unset, .unset, .unset] [(.int v294), (.int 0), (.ref b306), (.ref b306)]) s₁ (own_E m p0 p1 p2 p3 p4) := by
  intro t k
  refine pre312 t ?_
  refine XS.dup X306.here hx rfl (hb hby at_89) rfl rfl ?_
  refine XS.iconst X306.here hx rfl (hb hby at_90) ?_
  refine XS.iload X306.here hx rfl (hb hby at_91) rfl ?_
  exact k
 obtain ⟨cl314, Ar314, q314, S314, M314, H314, G314⟩ := id V_b306
 have hin314 : ¬ ((0 : Int32) < 0 ∨ cl314.slots.size ≤ ((0 : Int32)).toNatClampNeg) := inb_of S314 ⟨by decide, by decide⟩
 obtain ⟨T314, h314, X314, e314, W314, st314⟩ := stC X306 hx hZ e306 Ar314 (j := (0 : Int32)) hin314 (g := (mkF m 93 #[vI p0, vI p1, vI p2, vI p3, vI p4, vI v273, vI v279, vI v285, vI v291, vI v294, vI v297, vI v300, vI v303, .unset, .unset, .unset, .unset, .unset, .unset, .unset, .unset] [(.int v294), (.int 0), (.ref b306), (.ref b306)])) rfl rfl (hb hby at_93)
 have Z314 : n0 ≤ h314.size := Nat.le_trans Z306 (Keep.of_wr W314).1
 have K314 : Keep h0 h314 [] := K306.wr W314 (Or.inr sz_b306)
 have N314 := Fr.snoc X314 N0 g_b306
 have hk314 := Nat.le_trans hk306 (Keep.of_wr W314).1
 have CR314 := CR306.trans (CHr.wr W314 (Safe.arv hZ.alike V_b306 (by decide)) CR306.1)
 have Sf315 : Sta Z h314 "java/lang/String" "COMPACT_STRINGS" "Z" (.int gc1) := (Sf307).wr W314
 have Sf316 : Sta Z h314 "jdk/internal/util/Preconditions" "SIOOBE_FORMATTER" "Ljava/util/function/BiFunction;" gf3 := (Sf308).wr W314
 have Sf317 : Sta Z h314 "java/util/Optional" "EMPTY" "Ljava/util/Optional;" (.ref s_EMPTY) := (Sf309).wr W314
 have Ef318 : Exa Z h314 s_EMPTY "java/util/Optional" := (Ef310).wr W314
 have Ff319 : Fld Z h314 s_EMPTY "java/util/Optional" "value" "Ljava/lang/Object;" .null := (Ff311).other W314 (Or.inl ne_s_EMPTY_b306)
 have Ef320 : Exa Z h314 b306 "[C" := (C306).wr W314
 have V314 : Arv Z h314 b306 k306 .char (3 : Int32) [(.int (nar .char v294)), (.int 0), (.int 0)] (.int 0) := Arv.set Ar314 q314 S314 M314 H314 G314 (fits_nar_char _) W314 0 rfl (Nat.le_of_ble_eq_true rfl)
 have pre321 : own_P p e below T314 (mkF m 94 #[vI p0, vI p1, vI p2, vI p3, vI p4, vI v273, vI v279, vI v285, vI v291, vI v294, vI v297, vI v300, vI v303, .unset, .unset, .unset, .unset, .unset, .unset, .unset, .unset] [(.ref b306)]) s₁ (own_E m p0 p1 p2 p3 p4) := fun t k => pre313 t (st314 t k)
 have pre322 : own_P p e below T314 (mkF m 98 #[vI p0, vI p1, vI p2, vI p3, vI p4, vI v273, vI v279, vI v285, vI v291, vI v294, vI v297, vI v300, vI v303, .unset, .unset, .unset, .unset, .unset, .unset, .unset, .unset] [(.int v297), (.int 1), (.ref b306), (.ref b306)]) s₁ (own_E m p0 p1 p2 p3 p4) := by
  intro t k
  refine pre321 t ?_
  refine XS.dup X314.here hx rfl (hb hby at_94) rfl rfl ?_
  refine XS.iconst X314.here hx rfl (hb hby at_95) ?_
  refine XS.iload X314.here hx rfl (hb hby at_96) rfl ?_
  exact k
 obtain ⟨cl323, Ar323, q323, S323, M323, H323, G323⟩ := id V314
 have hin323 : ¬ ((1 : Int32) < 0 ∨ cl323.slots.size ≤ ((1 : Int32)).toNatClampNeg) := inb_of S323 ⟨by decide, by decide⟩
 obtain ⟨T323, h323, X323, e323, W323, st323⟩ := stC X314 hx hZ e314 Ar323 (j := (1 : Int32)) hin323 (g := (mkF m 98 #[vI p0, vI p1, vI p2, vI p3, vI p4, vI v273, vI v279, vI v285, vI v291, vI v294, vI v297, vI v300, vI v303, .unset, .unset, .unset, .unset, .unset, .unset, .unset, .unset] [(.int v297), (.int 1), (.ref b306), (.ref b306)])) rfl rfl (hb hby at_98)
 have Z323 : n0 ≤ h323.size := Nat.le_trans Z314 (Keep.of_wr W323).1
 have K323 : Keep h0 h323 [] := K314.wr W323 (Or.inr sz_b306)
 have N323 := Fr.snoc X323 N314 g_b306
 have hk323 := Nat.le_trans hk314 (Keep.of_wr W323).1
 have CR323 := CR314.trans (CHr.wr W323 (Safe.arv hZ.alike V314 (by decide)) CR314.1)
 have Sf324 : Sta Z h323 "java/lang/String" "COMPACT_STRINGS" "Z" (.int gc1) := (Sf315).wr W323
 have Sf325 : Sta Z h323 "jdk/internal/util/Preconditions" "SIOOBE_FORMATTER" "Ljava/util/function/BiFunction;" gf3 := (Sf316).wr W323
 have Sf326 : Sta Z h323 "java/util/Optional" "EMPTY" "Ljava/util/Optional;" (.ref s_EMPTY) := (Sf317).wr W323
 have Ef327 : Exa Z h323 s_EMPTY "java/util/Optional" := (Ef318).wr W323
 have Ff328 : Fld Z h323 s_EMPTY "java/util/Optional" "value" "Ljava/lang/Object;" .null := (Ff319).other W323 (Or.inl ne_s_EMPTY_b306)
 have Ef329 : Exa Z h323 b306 "[C" := (Ef320).wr W323
 have V323 : Arv Z h323 b306 k306 .char (3 : Int32) [(.int (nar .char v294)), (.int (nar .char v297)), (.int 0)] (.int 0) := Arv.set Ar323 q323 S323 M323 H323 G323 (fits_nar_char _) W323 1 rfl (Nat.le_of_ble_eq_true rfl)
 have pre330 : own_P p e below T323 (mkF m 99 #[vI p0, vI p1, vI p2, vI p3, vI p4, vI v273, vI v279, vI v285, vI v291, vI v294, vI v297, vI v300, vI v303, .unset, .unset, .unset, .unset, .unset, .unset, .unset, .unset] [(.ref b306)]) s₁ (own_E m p0 p1 p2 p3 p4) := fun t k => pre322 t (st323 t k)
 have pre331 : own_P p e below T323 (mkF m 103 #[vI p0, vI p1, vI p2, vI p3, vI p4, vI v273, vI v279, vI v285, vI v291, vI v294, vI v297, vI v300, vI v303, .unset, .unset, .unset, .unset, .unset, .unset, .unset, .unset] [(.int v300), (.int 2), (.ref b306), (.ref b306)]) s₁ (own_E m p0 p1 p2 p3 p4) := by
  intro t k
  refine pre330 t ?_
  refine XS.dup X323.here hx rfl (hb hby at_99) rfl rfl ?_
  refine XS.iconst X323.here hx rfl (hb hby at_100) ?_
  refine XS.iload X323.here hx rfl (hb hby at_101) rfl ?_
  exact k
 obtain ⟨cl332, Ar332, q332, S332, M332, H332, G332⟩ := id V323
 have hin332 : ¬ ((2 : Int32) < 0 ∨ cl332.slots.size ≤ ((2 : Int32)).toNatClampNeg) := inb_of S332 ⟨by decide, by decide⟩
 obtain ⟨T332, h332, X332, e332, W332, st332⟩ := stC X323 hx hZ e323 Ar332 (j := (2 : Int32)) hin332 (g := (mkF m 103 #[vI p0, vI p1, vI p2, vI p3, vI p4, vI v273, vI v279, vI v285, vI v291, vI v294, vI v297, vI v300, vI v303, .unset, .unset, .unset, .unset, .unset, .unset, .unset, .unset] [(.int v300), (.int 2), (.ref b306), (.ref b306)])) rfl rfl (hb hby at_103)
 have Z332 : n0 ≤ h332.size := Nat.le_trans Z323 (Keep.of_wr W332).1
 have K332 : Keep h0 h332 [] := K323.wr W332 (Or.inr sz_b306)
 have N332 := Fr.snoc X332 N323 g_b306
 have hk332 := Nat.le_trans hk323 (Keep.of_wr W332).1
 have CR332 := CR323.trans (CHr.wr W332 (Safe.arv hZ.alike V323 (by decide)) CR323.1)
 have Sf333 : Sta Z h332 "java/lang/String" "COMPACT_STRINGS" "Z" (.int gc1) := (Sf324).wr W332
 have Sf334 : Sta Z h332 "jdk/internal/util/Preconditions" "SIOOBE_FORMATTER" "Ljava/util/function/BiFunction;" gf3 := (Sf325).wr W332
 have Sf335 : Sta Z h332 "java/util/Optional" "EMPTY" "Ljava/util/Optional;" (.ref s_EMPTY) := (Sf326).wr W332
 have Ef336 : Exa Z h332 s_EMPTY "java/util/Optional" := (Ef327).wr W332
 have Ff337 : Fld Z h332 s_EMPTY "java/util/Optional" "value" "Ljava/lang/Object;" .null := (Ff328).other W332 (Or.inl ne_s_EMPTY_b306)
 have Ef338 : Exa Z h332 b306 "[C" := (Ef329).wr W332
 have V332 : Arv Z h332 b306 k306 .char (3 : Int32) [(.int (nar .char v294)), (.int (nar .char v297)), (.int (nar .char v300))] (.int 0) := Arv.set Ar332 q332 S332 M332 H332 G332 (fits_nar_char _) W332 2 rfl (Nat.le_of_ble_eq_true rfl)
 have pre339 : own_P p e below T332 (mkF m 104 #[vI p0, vI p1, vI p2, vI p3, vI p4, vI v273, vI v279, vI v285, vI v291, vI v294, vI v297, vI v300, vI v303, .unset, .unset, .unset, .unset, .unset, .unset, .unset, .unset] [(.ref b306)]) s₁ (own_E m p0 p1 p2 p3 p4) := fun t k => pre331 t (st332 t k)
 have pre340 : own_P p e below T332 (mkF m 108 #[vI p0, vI p1, vI p2, vI p3, vI p4, vI v273, vI v279, vI v285, vI v291, vI v294, vI v297, vI v300, vI v303, vR b306, .unset, .unset, .unset, .unset, .unset, .unset, .unset] [(.int v279)]) s₁ (own_E m p0 p1 p2 p3 p4) := by
  intro t k
  refine pre339 t ?_
  refine XS.astore X332.here hx rfl (hb hby at_104) rfl rfl (l' := #[vI p0, vI p1, vI p2, vI p3, vI p4, vI v273, vI v279, vI v285, vI v291, vI v294, vI v297, vI v300, vI v303, vR b306, .unset, .unset, .unset, .unset, .unset, .unset, .unset]) rfl ?_
  refine XS.iload X332.here hx rfl (hb hby at_106) rfl ?_
  exact k
 by_cases hc108_341 : v279 = (0 : Int32)
 ·
  have pre342 : ∀ t, Steps p.tables e below (T332.setTop (mkF m 125 #[vI p0, vI p1, vI p2, vI p3, vI p4, vI v273, vI v279, vI v285, vI v291, vI v294, vI v297, vI v300, vI v303, vR b306, .unset, .unset, .unset, .unset, .unset, .unset, .unset] [(.int v294)])) t → Steps p.tables e below (s₁.setTop (own_E m p0 p1 p2 p3 p4)) t := by
   intro t k
   refine pre340 t ?_
   refine XS.ifYes X332.here hx rfl (pc0 := 108) (pc' := 123) rfl (hb hby at_108) rfl ((if0 _ _).trans (teq hc108_341).1) (by decide) (by decide) ?_
   refine XS.iload X332.here hx rfl (hb hby at_123) rfl ?_
   exact k
  obtain ⟨_, _, ⟨T343, L343, k343, n343⟩, -, X343, ⟨Lc343, hQ343, l343, y343, z343⟩, st343⟩ := Jvm.LawKit.callS X332 hx (y := (⟨"java/lang/String", "valueOf", "(C)Ljava/lang/String;"⟩ : MethodName)) hown (mvT hZ (own_w hw 1 rfl)) (mvT hZ (own_w hw 2 rfl)) (mvT hZ (own_w hw 3 rfl)) (mvT hZ (own_w hw 4 rfl)) (by decide) (backOf (W := 0) (rm1 l Z ar0 hw [] v294 gc1 h332 n0 Z332 P5 (own_rg1 hv294) Sf333) hZ (own_w hw 4 rfl) (own_w hw 3 rfl) (by decide) (by decide)) (g := (mkF m 125 #[vI p0, vI p1, vI p2, vI p3, vI p4, vI v273, vI v279, vI v285, vI v291, vI v294, vI v297, vI v300, vI v303, vR b306, .unset, .unset, .unset, .unset, .unset, .unset, .unset] [(.int v294)])) rfl (by rw [hml]; rfl) (argsL := [(.int v294)]) (rest := []) (lenOf pd_7 rfl) rfl (by show 2 * 0 + _ ≤ _; exact Nat.le_of_eq rfl) (hb hby at_125) (fun _ _ => ⟨rfl, e332, (by decide : 1 + 2 ≤ _), (by decide : 3 + 5 ≤ _)⟩)
  dsimp only [Pt.U, Pt.locs, Pt.cells, Pt.slots] at X343 l343 y343 z343 st343 hQ343
  subst l343 y343 z343
  obtain ⟨h343, e343⟩ : ∃ h, T343.heap = h := ⟨_, rfl⟩
  rw [e343] at hQ343
  obtain ⟨b343, b343b, kb343b, rfl, N343q, K343q, y_b343, Ob343_0, Ob343_1, Ob343_2, y_b343b, Ob343b_0, Ob343b_1⟩ := hQ343
  have N343 := Fr.app N332 N343q
  have ne_s_EMPTY_b343 : s_EMPTY ≠ b343 := Nat.ne_of_lt (Nat.lt_of_lt_of_le (Ef336).lt y_b343)
  have ne_b306_b343 : b306 ≠ b343 := Nat.ne_of_lt (Nat.lt_of_lt_of_le (Ef338).lt y_b343)
  have g_b343 : n0 ≤ b343 := Nat.le_trans Z332 y_b343
  have sz_b343 : h0.size ≤ b343 := Nat.le_trans K332.1 y_b343
  have ne_s_EMPTY_b343b : s_EMPTY ≠ b343b := Nat.ne_of_lt (Nat.lt_of_lt_of_le (Ef336).lt y_b343b)
  have ne_b306_b343b : b306 ≠ b343b := Nat.ne_of_lt (Nat.lt_of_lt_of_le (Ef338).lt y_b343b)
  have g_b343b : n0 ≤ b343b := Nat.le_trans Z332 y_b343b
  have sz_b343b : h0.size ≤ b343b := Nat.le_trans K332.1 y_b343b
  have Z343 : n0 ≤ h343.size := Nat.le_trans Z332 K343q.1
  have hk343 := Nat.le_trans hk332 K343q.1
  have K343 : Keep h0 h343 [] := K332.trans K343q (fun x hx => absurd hx List.not_mem_nil)
  have CR343 := CR332.trans (CHr.keep K343q sf0 CR332.1)
  have Sf344 : Sta Z h343 "java/lang/String" "COMPACT_STRINGS" "Z" (.int gc1) := own_sta_keep0 Sf333 K343q
  have Sf345 : Sta Z h343 "jdk/internal/util/Preconditions" "SIOOBE_FORMATTER" "Ljava/util/function/BiFunction;" gf3 := own_sta_keep0 Sf334 K343q
  have Sf346 : Sta Z h343 "java/util/Optional" "EMPTY" "Ljava/util/Optional;" (.ref s_EMPTY) := own_sta_keep0 Sf335 K343q
  have Ef347 : Exa Z h343 s_EMPTY "java/util/Optional" := (Ef336).keep K343q
  have Ff348 : Fld Z h343 s_EMPTY "java/util/Optional" "value" "Ljava/lang/Object;" .null := (Ff337).keep K343q List.not_mem_nil
  have Ef349 : Exa Z h343 b306 "[C" := (Ef338).keep K343q
  have Vf350 : Arv Z h343 b306 k306 .char (3 : Int32) [(.int (nar .char v294)), (.int (nar .char v297)), (.int (nar .char v300))] (.int 0) := (V332).keep K343q List.not_mem_nil
  have pre351 : own_P p e below T343 (mkF m 128 #[vI p0, vI p1, vI p2, vI p3, vI p4, vI v273, vI v279, vI v285, vI v291, vI v294, vI v297, vI v300, vI v303, vR b306, .unset, .unset, .unset, .unset, .unset, .unset, .unset] [(.ref b343)]) s₁ (own_E m p0 p1 p2 p3 p4) := fun t k => pre342 t (st343 t k)
  have pre352 : own_P p e below T343 (mkF m 132 #[vI p0, vI p1, vI p2, vI p3, vI p4, vI v273, vI v279, vI v285, vI v291, vI v294, vI v297, vI v300, vI v303, vR b306, vR b343, .unset, .unset, .unset, .unset, .unset, .unset] [(.int v303)]) s₁ (own_E m p0 p1 p2 p3 p4) := by
   intro t k
   refine pre351 t ?_
   refine XS.astore X343.here hx rfl (hb hby at_128) rfl rfl (l' := #[vI p0, vI p1, vI p2, vI p3, vI p4, vI v273, vI v279, vI v285, vI v291, vI v294, vI v297, vI v300, vI v303, vR b306, vR b343, .unset, .unset, .unset, .unset, .unset, .unset]) rfl ?_
   refine XS.iload X343.here hx rfl (hb hby at_130) rfl ?_
   exact k
  obtain ⟨_, _, ⟨T353, L353, k353, n353⟩, -, X353, ⟨Lc353, hQ353, l353, y353, z353⟩, st353⟩ := Jvm.LawKit.callS X343 hx (y := (⟨"java/lang/String", "valueOf", "(C)Ljava/lang/String;"⟩ : MethodName)) hown (mvT hZ (own_w hw 1 rfl)) (mvT hZ (own_w hw 2 rfl)) (mvT hZ (own_w hw 3 rfl)) (mvT hZ (own_w hw 4 rfl)) (by decide) (backOf (W := 0) (rm1 l Z ar0 hw [] v303 gc1 h343 n0 Z343 P5 (own_rg1 hv303) Sf344) hZ (own_w hw 4 rfl) (own_w hw 3 rfl) (by decide) (by decide)) (g := (mkF m 132 #[vI p0, vI p1, vI p2, vI p3, vI p4, vI v273, vI v279, vI v285, vI v291, vI v294, vI v297, vI v300, vI v303, vR b306, vR b343, .unset, .unset, .unset, .unset, .unset, .unset] [(.int v303)])) rfl (by rw [hml]; rfl) (argsL := [(.int v303)]) (rest := []) (lenOf pd_7 rfl) rfl (by show 2 * 0 + _ ≤ _; exact Nat.le_of_eq rfl) (hb hby at_132) (fun _ _ => ⟨rfl, e343, (by decide : 3 + 2 ≤ _), (by decide : 8 + 5 ≤ _)⟩)
  dsimp only [Pt.U, Pt.locs, Pt.cells, Pt.slots] at X353 l353 y353 z353 st353 hQ353
  subst l353 y353 z353
  obtain ⟨h353, e353⟩ : ∃ h, T353.heap = h := ⟨_, rfl⟩
  rw [e353] at hQ353
  obtain ⟨b353, b353b, kb353b, rfl, N353q, K353q, y_b353, Ob353_0, Ob353_1, Ob353_2, y_b353b, Ob353b_0, Ob353b_1⟩ := hQ353
  have N353 := Fr.app N343 N353q
  have ne_s_EMPTY_b353 : s_EMPTY ≠ b353 := Nat.ne_of_lt (Nat.lt_of_lt_of_le (Ef347).lt y_b353)
  have ne_b306_b353 : b306 ≠ b353 := Nat.ne_of_lt (Nat.lt_of_lt_of_le (Ef349).lt y_b353)
  have ne_b343_b353 : b343 ≠ b353 := Nat.ne_of_lt (Nat.lt_of_lt_of_le (Ob343_0).lt y_b353)
  have ne_b343b_b353 : b343b ≠ b353 := Nat.ne_of_lt (Nat.lt_of_lt_of_le (Ob343b_0).lt y_b353)
  have g_b353 : n0 ≤ b353 := Nat.le_trans Z343 y_b353
  have sz_b353 : h0.size ≤ b353 := Nat.le_trans K343.1 y_b353
  have ne_s_EMPTY_b353b : s_EMPTY ≠ b353b := Nat.ne_of_lt (Nat.lt_of_lt_of_le (Ef347).lt y_b353b)
  have ne_b306_b353b : b306 ≠ b353b := Nat.ne_of_lt (Nat.lt_of_lt_of_le (Ef349).lt y_b353b)
  have ne_b343_b353b : b343 ≠ b353b := Nat.ne_of_lt (Nat.lt_of_lt_of_le (Ob343_0).lt y_b353b)
  have ne_b343b_b353b : b343b ≠ b353b := Nat.ne_of_lt (Nat.lt_of_lt_of_le (Ob343b_0).lt y_b353b)
  have g_b353b : n0 ≤ b353b := Nat.le_trans Z343 y_b353b
  have sz_b353b : h0.size ≤ b353b := Nat.le_trans K343.1 y_b353b
  have Z353 : n0 ≤ h353.size := Nat.le_trans Z343 K353q.1
  have hk353 := Nat.le_trans hk343 K353q.1
  have K353 : Keep h0 h353 [] := K343.trans K353q (fun x hx => absurd hx List.not_mem_nil)
  have CR353 := CR343.trans (CHr.keep K353q sf0 CR343.1)
  have Sf354 : Sta Z h353 "java/lang/String" "COMPACT_STRINGS" "Z" (.int gc1) := own_sta_keep0 Sf344 K353q
  have Sf355 : Sta Z h353 "jdk/internal/util/Preconditions" "SIOOBE_FORMATTER" "Ljava/util/function/BiFunction;" gf3 := own_sta_keep0 Sf345 K353q
  have Sf356 : Sta Z h353 "java/util/Optional" "EMPTY" "Ljava/util/Optional;" (.ref s_EMPTY) := own_sta_keep0 Sf346 K353q
  have Ef357 : Exa Z h353 s_EMPTY "java/util/Optional" := (Ef347).keep K353q
  have Ff358 : Fld Z h353 s_EMPTY "java/util/Optional" "value" "Ljava/lang/Object;" .null := (Ff348).keep K353q List.not_mem_nil
  have Ef359 : Exa Z h353 b306 "[C" := (Ef349).keep K353q
  have Vf360 : Arv Z h353 b306 k306 .char (3 : Int32) [(.int (nar .char v294)), (.int (nar .char v297)), (.int (nar .char v300))] (.int 0) := (Vf350).keep K353q List.not_mem_nil
  have Ef361 : Exa Z h353 b343 "java/lang/String" := (Ob343_0).keep K353q
  have Ff362 : Fld Z h353 b343 "java/lang/String" "value" "[B" (.ref b343b) := (Ob343_1).keep K353q List.not_mem_nil
  have Ff363 : Fld Z h353 b343 "java/lang/String" "coder" "B" (.int 0) := (Ob343_2).keep K353q List.not_mem_nil
  have Ef364 : Exa Z h353 b343b "[B" := (Ob343b_0).keep K353q
  have Vf365 : Arv Z h353 b343b kb343b .byte (1 : Int32) ((([v294] : List Int32).map (fun c => c.toInt8.toInt32)).map Value.int) (.int 0) := (Ob343b_1).keep K353q List.not_mem_nil
  have pre366 : own_P p e below T353 (mkF m 135 #[vI p0, vI p1, vI p2, vI p3, vI p4, vI v273, vI v279, vI v285, vI v291, vI v294, vI v297, vI v300, vI v303, vR b306, vR b343, .unset, .unset, .unset, .unset, .unset, .unset] [(.ref b353)]) s₁ (own_E m p0 p1 p2 p3 p4) := fun t k => pre352 t (st353 t k)
  have pre367 : own_P p e below T353 (mkF m 139 #[vI p0, vI p1, vI p2, vI p3, vI p4, vI v273, vI v279, vI v285, vI v291, vI v294, vI v297, vI v300, vI v303, vR b306, vR b343, vR b353, .unset, .unset, .unset, .unset, .unset] [(.int v273)]) s₁ (own_E m p0 p1 p2 p3 p4) := by
   intro t k
   refine pre366 t ?_
   refine XS.astore X353.here hx rfl (hb hby at_135) rfl rfl (l' := #[vI p0, vI p1, vI p2, vI p3, vI p4, vI v273, vI v279, vI v285, vI v291, vI v294, vI v297, vI v300, vI v303, vR b306, vR b343, vR b353, .unset, .unset, .unset, .unset, .unset]) rfl ?_
   refine XS.iload X353.here hx rfl (hb hby at_137) rfl ?_
   exact k
  by_cases hc139_368 : v273 = (0 : Int32)
  ·
   have pre369 : ∀ t, Steps p.tables e below (T353.setTop (mkF m 150 #[vI p0, vI p1, vI p2, vI p3, vI p4, vI v273, vI v279, vI v285, vI v291, vI v294, vI v297, vI v300, vI v303, vR b306, vR b343, vR b353, .unset, .unset, .unset, .unset, .unset] [])) t → Steps p.tables e below (s₁.setTop (own_E m p0 p1 p2 p3 p4)) t := by
    intro t k
    refine pre367 t ?_
    refine XS.ifYes X353.here hx rfl (pc0 := 139) (pc' := 150) rfl (hb hby at_139) rfl ((if0 _ _).trans (teq hc139_368).1) (by decide) (by decide) ?_
    exact k
   obtain ⟨_, _, ⟨T370, L370, k370, n370⟩, -, X370, ⟨Lc370, hQ370, l370, y370, z370⟩, st370⟩ := Jvm.LawKit.callS X353 hx (y := (⟨"java/util/Optional", "empty", "()Ljava/util/Optional;"⟩ : MethodName)) hown (mvT hZ (own_w hw 27 rfl)) (mvT hZ (own_w hw 28 rfl)) (mvT hZ (own_w hw 29 rfl)) (mvT hZ (own_w hw 30 rfl)) (by decide) (backOf (W := 0) (rm6 l Z ar0 hw [] s_EMPTY h353 n0 Z353 Sf356) hZ (own_w hw 30 rfl) (own_w hw 29 rfl) (by decide) (by decide)) (g := (mkF m 150 #[vI p0, vI p1, vI p2, vI p3, vI p4, vI v273, vI v279, vI v285, vI v291, vI v294, vI v297, vI v300, vI v303, vR b306, vR b343, vR b353, .unset, .unset, .unset, .unset, .unset] [])) rfl (by rw [hml]; rfl) (argsL := []) (rest := []) (lenOf pd_9 rfl) rfl (by show 2 * 0 + _ ≤ _; exact Nat.le_of_eq rfl) (hb hby at_150) (fun _ _ => ⟨rfl, e353, (by decide : 5 + 0 ≤ _), (by decide : 13 + 0 ≤ _)⟩)
   dsimp only [Pt.U, Pt.locs, Pt.cells, Pt.slots] at X370 l370 y370 z370 st370 hQ370
   subst l370 y370 z370
   obtain ⟨rfl, N370q, e370⟩ := hQ370
   have N370 := Fr.app N353 N370q
   have pre371 : own_P p e below T370 (mkF m 153 #[vI p0, vI p1, vI p2, vI p3, vI p4, vI v273, vI v279, vI v285, vI v291, vI v294, vI v297, vI v300, vI v303, vR b306, vR b343, vR b353, .unset, .unset, .unset, .unset, .unset] [(.ref s_EMPTY)]) s₁ (own_E m p0 p1 p2 p3 p4) := fun t k => pre369 t (st370 t k)
   have pre372 : own_P p e below T370 (mkF m 157 #[vI p0, vI p1, vI p2, vI p3, vI p4, vI v273, vI v279, vI v285, vI v291, vI v294, vI v297, vI v300, vI v303, vR b306, vR b343, vR b353, vR s_EMPTY, .unset, .unset, .unset, .unset] [(.int v285)]) s₁ (own_E m p0 p1 p2 p3 p4) := by
    intro t k
    refine pre371 t ?_
    refine XS.astore X370.here hx rfl (hb hby at_153) rfl rfl (l' := #[vI p0, vI p1, vI p2, vI p3, vI p4, vI v273, vI v279, vI v285, vI v291, vI v294, vI v297, vI v300, vI v303, vR b306, vR b343, vR b353, vR s_EMPTY, .unset, .unset, .unset, .unset]) rfl ?_
    refine XS.iload X370.here hx rfl (hb hby at_155) rfl ?_
    exact k
   by_cases hc157_373 : v285 = (0 : Int32)
   ·
    have pre374 : ∀ t, Steps p.tables e below (T370.setTop (mkF m 168 #[vI p0, vI p1, vI p2, vI p3, vI p4, vI v273, vI v279, vI v285, vI v291, vI v294, vI v297, vI v300, vI v303, vR b306, vR b343, vR b353, vR s_EMPTY, .unset, .unset, .unset, .unset] [])) t → Steps p.tables e below (s₁.setTop (own_E m p0 p1 p2 p3 p4)) t := by
     intro t k
     refine pre372 t ?_
     refine XS.ifYes X370.here hx rfl (pc0 := 157) (pc' := 168) rfl (hb hby at_157) rfl ((if0 _ _).trans (teq hc157_373).1) (by decide) (by decide) ?_
     exact k
    obtain ⟨_, _, ⟨T375, L375, k375, n375⟩, -, X375, ⟨Lc375, hQ375, l375, y375, z375⟩, st375⟩ := Jvm.LawKit.callS X370 hx (y := (⟨"java/util/Optional", "empty", "()Ljava/util/Optional;"⟩ : MethodName)) hown (mvT hZ (own_w hw 27 rfl)) (mvT hZ (own_w hw 28 rfl)) (mvT hZ (own_w hw 29 rfl)) (mvT hZ (own_w hw 30 rfl)) (by decide) (backOf (W := 0) (rm6 l Z ar0 hw [] s_EMPTY h353 n0 Z353 Sf356) hZ (own_w hw 30 rfl) (own_w hw 29 rfl) (by decide) (by decide)) (g := (mkF m 168 #[vI p0, vI p1, vI p2, vI p3, vI p4, vI v273, vI v279, vI v285, vI v291, vI v294, vI v297, vI v300, vI v303, vR b306, vR b343, vR b353, vR s_EMPTY, .unset, .unset, .unset, .unset] [])) rfl (by rw [hml]; rfl) (argsL := []) (rest := []) (lenOf pd_9 rfl) rfl (by show 2 * 0 + _ ≤ _; exact Nat.le_of_eq rfl) (hb hby at_168) (fun _ _ => ⟨rfl, e370, (by decide : 5 + 0 ≤ _), (by decide : 13 + 0 ≤ _)⟩)
    dsimp only [Pt.U, Pt.locs, Pt.cells, Pt.slots] at X375 l375 y375 z375 st375 hQ375
    subst l375 y375 z375
    obtain ⟨rfl, N375q, e375⟩ := hQ375
    have N375 := Fr.app N370 N375q
    have pre376 : own_P p e below T375 (mkF m 171 #[vI p0, vI p1, vI p2, vI p3, vI p4, vI v273, vI v279, vI v285, vI v291, vI v294, vI v297, vI v300, vI v303, vR b306, vR b343, vR b353, vR s_EMPTY, .unset, .unset, .unset, .unset] [(.ref s_EMPTY)]) s₁ (own_E m p0 p1 p2 p3 p4) := fun t k => pre374 t (st375 t k)
    have pre377 : own_P p e below T375 (mkF m 175 #[vI p0, vI p1, vI p2, vI p3, vI p4, vI v273, vI v279, vI v285, vI v291, vI v294, vI v297, vI v300, vI v303, vR b306, vR b343, vR b353, vR s_EMPTY, vR s_EMPTY, .unset, .unset, .unset] [(.int v291)]) s₁ (own_E m p0 p1 p2 p3 p4) := by
     intro t k
     refine pre376 t ?_
     refine XS.astore X375.here hx rfl (hb hby at_171) rfl rfl (l' := #[vI p0, vI p1, vI p2, vI p3, vI p4, vI v273, vI v279, vI v285, vI v291, vI v294, vI v297, vI v300, vI v303, vR b306, vR b343, vR b353, vR s_EMPTY, vR s_EMPTY, .unset, .unset, .unset]) rfl ?_
     refine XS.iload X375.here hx rfl (hb hby at_173) rfl ?_
     exact k
    by_cases hc175_378 : v291 = (0 : Int32)
    ·
     have pre379 : ∀ t, Steps p.tables e below (T375.setTop (mkF m 186 #[vI p0, vI p1, vI p2, vI p3, vI p4, vI v273, vI v279, vI v285, vI v291, vI v294, vI v297, vI v300, vI v303, vR b306, vR b343, vR b353, vR s_EMPTY, vR s_EMPTY, .unset, .unset, .unset] [])) t → Steps p.tables e below (s₁.setTop (own_E m p0 p1 p2 p3 p4)) t := by
      intro t k
      refine pre377 t ?_
      refine XS.ifYes X375.here hx rfl (pc0 := 175) (pc' := 186) rfl (hb hby at_175) rfl ((if0 _ _).trans (teq hc175_378).1) (by decide) (by decide) ?_
      exact k
     obtain ⟨_, _, ⟨T380, L380, k380, n380⟩, -, X380, ⟨Lc380, hQ380, l380, y380, z380⟩, st380⟩ := Jvm.LawKit.callS X375 hx (y := (⟨"java/util/Optional", "empty", "()Ljava/util/Optional;"⟩ : MethodName)) hown (mvT hZ (own_w hw 27 rfl)) (mvT hZ (own_w hw 28 rfl)) (mvT hZ (own_w hw 29 rfl)) (mvT hZ (own_w hw 30 rfl)) (by decide) (backOf (W := 0) (rm6 l Z ar0 hw [] s_EMPTY h353 n0 Z353 Sf356) hZ (own_w hw 30 rfl) (own_w hw 29 rfl) (by decide) (by decide)) (g := (mkF m 186 #[vI p0, vI p1, vI p2, vI p3, vI p4, vI v273, vI v279, vI v285, vI v291, vI v294, vI v297, vI v300, vI v303, vR b306, vR b343, vR b353, vR s_EMPTY, vR s_EMPTY, .unset, .unset, .unset] [])) rfl (by rw [hml]; rfl) (argsL := []) (rest := []) (lenOf pd_9 rfl) rfl (by show 2 * 0 + _ ≤ _; exact Nat.le_of_eq rfl) (hb hby at_186) (fun _ _ => ⟨rfl, e375, (by decide : 5 + 0 ≤ _), (by decide : 13 + 0 ≤ _)⟩)
     dsimp only [Pt.U, Pt.locs, Pt.cells, Pt.slots] at X380 l380 y380 z380 st380 hQ380
     subst l380 y380 z380
     obtain ⟨rfl, N380q, e380⟩ := hQ380
     have N380 := Fr.app N375 N380q
     have pre381 : own_P p e below T380 (mkF m 189 #[vI p0, vI p1, vI p2, vI p3, vI p4, vI v273, vI v279, vI v285, vI v291, vI v294, vI v297, vI v300, vI v303, vR b306, vR b343, vR b353, vR s_EMPTY, vR s_EMPTY, .unset, .unset, .unset] [(.ref s_EMPTY)]) s₁ (own_E m p0 p1 p2 p3 p4) := fun t k => pre379 t (st380 t k)
     have pre382 : own_P p e below T380 (mkF m 191 #[vI p0, vI p1, vI p2, vI p3, vI p4, vI v273, vI v279, vI v285, vI v291, vI v294, vI v297, vI v300, vI v303, vR b306, vR b343, vR b353, vR s_EMPTY, vR s_EMPTY, vR s_EMPTY, .unset, .unset] []) s₁ (own_E m p0 p1 p2 p3 p4) := by
      intro t k
      refine pre381 t ?_
      refine XS.astore X380.here hx rfl (hb hby at_189) rfl rfl (l' := #[vI p0, vI p1, vI p2, vI p3, vI p4, vI v273, vI v279, vI v285, vI v291, vI v294, vI v297, vI v300, vI v303, vR b306, vR b343, vR b353, vR s_EMPTY, vR s_EMPTY, vR s_EMPTY, .unset, .unset]) rfl ?_
      exact k
     obtain ⟨T383, h383, X383, e383, E383, A383, D383, -, st383⟩ := newO X380 hx hZ hown (own_w hw 32 rfl) (own_w hw 33 rfl) (own_w hw 34 rfl) e380 (g := (mkF m 191 #[vI p0, vI p1, vI p2, vI p3, vI p4, vI v273, vI v279, vI v285, vI v291, vI v294, vI v297, vI v300, vI v303, vR b306, vR b343, vR b353, vR s_EMPTY, vR s_EMPTY, vR s_EMPTY, .unset, .unset] [])) rfl (hb hby at_191) (by decide) (by decide)
     obtain ⟨b383, g383⟩ : ∃ z, z = h353.size := ⟨_, rfl⟩
     rw [← g383] at A383 D383 st383
     have ne_s_EMPTY_b383 : s_EMPTY ≠ b383 := Nat.ne_of_lt (Nat.lt_of_lt_of_le (Ef357).lt (Nat.le_of_eq g383.symm))
     have ne_b343_b383 : b343 ≠ b383 := Nat.ne_of_lt (Nat.lt_of_lt_of_le (Ef361).lt (Nat.le_of_eq g383.symm))
     have ne_b343b_b383 : b343b ≠ b383 := Nat.ne_of_lt (Nat.lt_of_lt_of_le (Ef364).lt (Nat.le_of_eq g383.symm))
     have g_b383 : n0 ≤ b383 := Nat.le_trans Z353 (Nat.le_of_eq g383.symm)
     have sz_b383 : h0.size ≤ b383 := Nat.le_trans K353.1 (Nat.le_of_eq g383.symm)
     have Z383 : n0 ≤ h383.size := Nat.le_trans Z353 E383.1
     have K383 : Keep h0 h383 [] := K353.ext E383
     have hk383 := Nat.le_trans hk353 E383.1
     have CR383 := CR353.trans (CHr.ext E383 CR353.1)
     have Sf384 : Sta Z h383 "java/lang/String" "COMPACT_STRINGS" "Z" (.int gc1) := (Sf354).ext E383
     have Sf385 : Sta Z h383 "jdk/internal/util/Preconditions" "SIOOBE_FORMATTER" "Ljava/util/function/BiFunction;" gf3 := (Sf355).ext E383
     have Sf386 : Sta Z h383 "java/util/Optional" "EMPTY" "Ljava/util/Optional;" (.ref s_EMPTY) := (Sf356).ext E383
     have Ef387 : Exa Z h383 s_EMPTY "java/util/Optional" := (Ef357).ext E383
     have Ff388 : Fld Z h383 s_EMPTY "java/util/Optional" "value" "Ljava/lang/Object;" .null := (Ff358).ext E383
     have Ef389 : Exa Z h383 b343 "java/lang/String" := (Ef361).ext E383
     have Ff390 : Fld Z h383 b343 "java/lang/String" "value" "[B" (.ref b343b) := (Ff362).ext E383
     have Ff391 : Fld Z h383 b343 "java/lang/String" "coder" "B" (.int 0) := (Ff363).ext E383
     have Ef392 : Exa Z h383 b343b "[B" := (Ef364).ext E383
     have Vf393 : Arv Z h383 b343b kb343b .byte (1 : Int32) ((([v294] : List Int32).map (fun c => c.toInt8.toInt32)).map Value.int) (.int 0) := (Vf365).ext E383
     have Ftext_b383 : Fld Z h383 b383 own_GU "text" "Ljava/lang/String;" .null := D383 (Or.inr (own_w hw 60 rfl)) (ty := (.object "java/lang/String")) (by decide)
     have Fhost_b383 : Fld Z h383 b383 own_GU "host" "Ljava/lang/String;" .null := D383 (Or.inr (own_w hw 62 rfl)) (ty := (.object "java/lang/String")) (by decide)
     have Fport_b383 : Fld Z h383 b383 own_GU "port" "Ljava/util/Optional;" .null := D383 (Or.inr (own_w hw 64 rfl)) (ty := (.object "java/util/Optional")) (by decide)
     have Ftype_b383 : Fld Z h383 b383 own_GU "type" "Ljava/util/Optional;" .null := D383 (Or.inr (own_w hw 66 rfl)) (ty := (.object "java/util/Optional")) (by decide)
     have Fselector_b383 : Fld Z h383 b383 own_GU "selector" "Ljava/lang/String;" .null := D383 (Or.inr (own_w hw 68 rfl)) (ty := (.object "java/lang/String")) (by decide)
     have Fsearch_b383 : Fld Z h383 b383 own_GU "search" "Ljava/util/Optional;" .null := D383 (Or.inr (own_w hw 70 rfl)) (ty := (.object "java/util/Optional")) (by decide)
     have FgopherPlus_b383 : Fld Z h383 b383 own_GU "gopherPlus" "Ljava/util/Optional;" .null := D383 (Or.inr (own_w hw 72 rfl)) (ty := (.object "java/util/Optional")) (by decide)
     have pre394 : own_P p e below T383 (mkF m 194 #[vI p0, vI p1, vI p2, vI p3, vI p4, vI v273, vI v279, vI v285, vI v291, vI v294, vI v297, vI v300, vI v303, vR b306, vR b343, vR b353, vR s_EMPTY, vR s_EMPTY, vR s_EMPTY, .unset, .unset] [(.ref b383)]) s₁ (own_E m p0 p1 p2 p3 p4) := fun t k => pre382 t (st383 t k)
     have pre395 : own_P p e below T383 (mkF m 195 #[vI p0, vI p1, vI p2, vI p3, vI p4, vI v273, vI v279, vI v285, vI v291, vI v294, vI v297, vI v300, vI v303, vR b306, vR b343, vR b353, vR s_EMPTY, vR s_EMPTY, vR s_EMPTY, .unset, .unset] [(.ref b383), (.ref b383)]) s₁ (own_E m p0 p1 p2 p3 p4) := by
      intro t k
      refine pre394 t ?_
      refine XS.dup X383.here hx rfl (hb hby at_194) rfl rfl ?_
      exact k
     obtain ⟨a396, T396, h396, k396, X396, e396, E396, hS396, hk396, hZ396, ho396, hC396, -, st396⟩ := ldcOH (s := s) (vm0 := s.vm) X383 hx hZ hown (own_w hw 35 rfl) (own_strW hw) e383 hS0 hk383 hEL CR383.1 (g := (mkF m 195 #[vI p0, vI p1, vI p2, vI p3, vI p4, vI v273, vI v279, vI v285, vI v291, vI v294, vI v297, vI v300, vI v303, vR b306, vR b343, vR b353, vR s_EMPTY, vR s_EMPTY, vR s_EMPTY, .unset, .unset] [(.ref b383), (.ref b383)])) rfl (hb hby at_195) (n := 44) (by decide) (by decide) (by decide) (by decide)
     have CR396 := CR383.trans hC396
     have Z396 : n0 ≤ h396.size := Nat.le_trans Z383 E396.1
     have K396 : Keep h0 h396 [] := K383.ext E396
     have Sf397 : Sta Z h396 "java/lang/String" "COMPACT_STRINGS" "Z" (.int gc1) := (Sf384).ext E396
     have Sf398 : Sta Z h396 "jdk/internal/util/Preconditions" "SIOOBE_FORMATTER" "Ljava/util/function/BiFunction;" gf3 := (Sf385).ext E396
     have Sf399 : Sta Z h396 "java/util/Optional" "EMPTY" "Ljava/util/Optional;" (.ref s_EMPTY) := (Sf386).ext E396
     have Ef400 : Exa Z h396 s_EMPTY "java/util/Optional" := (Ef387).ext E396
     have Ff401 : Fld Z h396 s_EMPTY "java/util/Optional" "value" "Ljava/lang/Object;" .null := (Ff388).ext E396
     have Ef402 : Exa Z h396 b343 "java/lang/String" := (Ef389).ext E396
     have Ff403 : Fld Z h396 b343 "java/lang/String" "value" "[B" (.ref b343b) := (Ff390).ext E396
     have Ff404 : Fld Z h396 b343 "java/lang/String" "coder" "B" (.int 0) := (Ff391).ext E396
     have Ef405 : Exa Z h396 b343b "[B" := (Ef392).ext E396
     have Vf406 : Arv Z h396 b343b kb343b .byte (1 : Int32) ((([v294] : List Int32).map (fun c => c.toInt8.toInt32)).map Value.int) (.int 0) := (Vf393).ext E396
     have Ef407 : Exa Z h396 b383 own_GU := (A383).ext E396
     have Ff408 : Fld Z h396 b383 own_GU "text" "Ljava/lang/String;" .null := (Ftext_b383).ext E396
     have Ff409 : Fld Z h396 b383 own_GU "host" "Ljava/lang/String;" .null := (Fhost_b383).ext E396
     have Ff410 : Fld Z h396 b383 own_GU "port" "Ljava/util/Optional;" .null := (Fport_b383).ext E396
     have Ff411 : Fld Z h396 b383 own_GU "type" "Ljava/util/Optional;" .null := (Ftype_b383).ext E396
     have Ff412 : Fld Z h396 b383 own_GU "selector" "Ljava/lang/String;" .null := (Fselector_b383).ext E396
     have Ff413 : Fld Z h396 b383 own_GU "search" "Ljava/util/Optional;" .null := (Fsearch_b383).ext E396
     have Ff414 : Fld Z h396 b383 own_GU "gopherPlus" "Ljava/util/Optional;" .null := (FgopherPlus_b383).ext E396
     have pre415 : own_P p e below T396 (mkF m 197 #[vI p0, vI p1, vI p2, vI p3, vI p4, vI v273, vI v279, vI v285, vI v291, vI v294, vI v297, vI v300, vI v303, vR b306, vR b343, vR b353, vR s_EMPTY, vR s_EMPTY, vR s_EMPTY, .unset, .unset] [(.ref a396), (.ref b383), (.ref b383)]) s₁ (own_E m p0 p1 p2 p3 p4) := fun t k => pre395 t (st396 t k)
     obtain ⟨a416, T416, h416, k416, X416, e416, E416, hS416, hk416, hZ416, ho416, hC416, -, st416⟩ := ldcOH (s := s) (vm0 := T396.vm) X396 hx hZ396 ho396 (own_w hw 38 rfl) (own_strW hw) e396 hS396 hk396 hEL CR396.1 (g := (mkF m 197 #[vI p0, vI p1, vI p2, vI p3, vI p4, vI v273, vI v279, vI v285, vI v291, vI v294, vI v297, vI v300, vI v303, vR b306, vR b343, vR b353, vR s_EMPTY, vR s_EMPTY, vR s_EMPTY, .unset, .unset] [(.ref a396), (.ref b383), (.ref b383)])) rfl (hb hby at_197) (n := 4) (by decide) (by decide) (by decide) (by decide)
     have CR416 := CR396.trans hC416
     have Z416 : n0 ≤ h416.size := Nat.le_trans Z396 E416.1
     have K416 : Keep h0 h416 [] := K396.ext E416
     have Sf417 : Sta Z h416 "java/lang/String" "COMPACT_STRINGS" "Z" (.int gc1) := (Sf397).ext E416
     have Sf418 : Sta Z h416 "jdk/internal/util/Preconditions" "SIOOBE_FORMATTER" "Ljava/util/function/BiFunction;" gf3 := (Sf398).ext E416
     have Sf419 : Sta Z h416 "java/util/Optional" "EMPTY" "Ljava/util/Optional;" (.ref s_EMPTY) := (Sf399).ext E416
     have Ef420 : Exa Z h416 s_EMPTY "java/util/Optional" := (Ef400).ext E416
     have Ff421 : Fld Z h416 s_EMPTY "java/util/Optional" "value" "Ljava/lang/Object;" .null := (Ff401).ext E416
     have Ef422 : Exa Z h416 b343 "java/lang/String" := (Ef402).ext E416
     have Ff423 : Fld Z h416 b343 "java/lang/String" "value" "[B" (.ref b343b) := (Ff403).ext E416
     have Ff424 : Fld Z h416 b343 "java/lang/String" "coder" "B" (.int 0) := (Ff404).ext E416
     have Ef425 : Exa Z h416 b343b "[B" := (Ef405).ext E416
     have Vf426 : Arv Z h416 b343b kb343b .byte (1 : Int32) ((([v294] : List Int32).map (fun c => c.toInt8.toInt32)).map Value.int) (.int 0) := (Vf406).ext E416
     have Ef427 : Exa Z h416 b383 own_GU := (Ef407).ext E416
     have Ff428 : Fld Z h416 b383 own_GU "text" "Ljava/lang/String;" .null := (Ff408).ext E416
     have Ff429 : Fld Z h416 b383 own_GU "host" "Ljava/lang/String;" .null := (Ff409).ext E416
     have Ff430 : Fld Z h416 b383 own_GU "port" "Ljava/util/Optional;" .null := (Ff410).ext E416
     have Ff431 : Fld Z h416 b383 own_GU "type" "Ljava/util/Optional;" .null := (Ff411).ext E416
     have Ff432 : Fld Z h416 b383 own_GU "selector" "Ljava/lang/String;" .null := (Ff412).ext E416
     have Ff433 : Fld Z h416 b383 own_GU "search" "Ljava/util/Optional;" .null := (Ff413).ext E416
     have Ff434 : Fld Z h416 b383 own_GU "gopherPlus" "Ljava/util/Optional;" .null := (Ff414).ext E416
     have pre435 : own_P p e below T416 (mkF m 199 #[vI p0, vI p1, vI p2, vI p3, vI p4, vI v273, vI v279, vI v285, vI v291, vI v294, vI v297, vI v300, vI v303, vR b306, vR b343, vR b353, vR s_EMPTY, vR s_EMPTY, vR s_EMPTY, .unset, .unset] [(.ref a416), (.ref a396), (.ref b383), (.ref b383)]) s₁ (own_E m p0 p1 p2 p3 p4) := fun t k => pre415 t (st416 t k)
     have pre436 : own_P p e below T416 (mkF m 207 #[vI p0, vI p1, vI p2, vI p3, vI p4, vI v273, vI v279, vI v285, vI v291, vI v294, vI v297, vI v300, vI v303, vR b306, vR b343, vR b353, vR s_EMPTY, vR s_EMPTY, vR s_EMPTY, .unset, .unset] [(.ref s_EMPTY), (.ref b353), (.ref s_EMPTY), (.ref s_EMPTY), (.ref a416), (.ref a396), (.ref b383), (.ref b383)]) s₁ (own_E m p0 p1 p2 p3 p4) := by
      intro t k
      refine pre435 t ?_
      refine XS.aload X416.here hx rfl (hb hby at_199) rfl rfl ?_
      refine XS.aload X416.here hx rfl (hb hby at_201) rfl rfl ?_
      refine XS.aload X416.here hx rfl (hb hby at_203) rfl rfl ?_
      refine XS.aload X416.here hx rfl (hb hby at_205) rfl rfl ?_
      exact k
     obtain ⟨_, _, ⟨T437, L437, k437, n437⟩, -, X437, ⟨Lc437, hQ437, l437, y437, z437⟩, st437⟩ := Jvm.LawKit.callS X416 hx (y := (⟨"java/util/Optional", "empty", "()Ljava/util/Optional;"⟩ : MethodName)) ho416 (mvT hZ416 (own_w hw 27 rfl)) (mvT hZ416 (own_w hw 28 rfl)) (mvT hZ416 (own_w hw 29 rfl)) (mvT hZ416 (own_w hw 30 rfl)) (by decide) (backOf (W := 8) (rm6 l Z ar0 hw [] s_EMPTY h416 n0 Z416 Sf419) hZ416 (own_w hw 30 rfl) (own_w hw 29 rfl) (by decide) (by decide)) (g := (mkF m 207 #[vI p0, vI p1, vI p2, vI p3, vI p4, vI v273, vI v279, vI v285, vI v291, vI v294, vI v297, vI v300, vI v303, vR b306, vR b343, vR b353, vR s_EMPTY, vR s_EMPTY, vR s_EMPTY, .unset, .unset] [(.ref s_EMPTY), (.ref b353), (.ref s_EMPTY), (.ref s_EMPTY), (.ref a416), (.ref a396), (.ref b383), (.ref b383)])) rfl (by rw [hml]; rfl) (argsL := []) (rest := [(.ref s_EMPTY), (.ref b353), (.ref s_EMPTY), (.ref s_EMPTY), (.ref a416), (.ref a396), (.ref b383), (.ref b383)]) (lenOf pd_9 rfl) rfl (by show 2 * 0 + _ ≤ _; exact Nat.le_of_eq rfl) (hb hby at_207) (fun _ _ => ⟨rfl, e416, (by decide : 10 + 0 ≤ _), (by decide : 76 + 0 ≤ _)⟩)
     dsimp only [Pt.U, Pt.locs, Pt.cells, Pt.slots] at X437 l437 y437 z437 st437 hQ437
     subst l437 y437 z437
     obtain ⟨rfl, N437q, e437⟩ := hQ437
     have N437 := Fr.app N380 N437q
     have pre438 : own_P p e below T437 (mkF m 210 #[vI p0, vI p1, vI p2, vI p3, vI p4, vI v273, vI v279, vI v285, vI v291, vI v294, vI v297, vI v300, vI v303, vR b306, vR b343, vR b353, vR s_EMPTY, vR s_EMPTY, vR s_EMPTY, .unset, .unset] [(.ref s_EMPTY), (.ref s_EMPTY), (.ref b353), (.ref s_EMPTY), (.ref s_EMPTY), (.ref a416), (.ref a396), (.ref b383), (.ref b383)]) s₁ (own_E m p0 p1 p2 p3 p4) := fun t k => pre436 t (st437 t k)
     obtain ⟨_, _, ⟨T439, L439, k439, n439⟩, -, X439r, hS439r, hg439r, ⟨Lc439, hQ439, l439, y439, z439, hC439⟩, st439⟩ := X437.specialBackS hx (y := (⟨own_GU, "<init>", "(Ljava/lang/String;Ljava/lang/String;Ljava/util/Optional;Ljava/util/Optional;Ljava/lang/String;Ljava/util/Optional;Ljava/util/Optional;)V"⟩ : MethodName)) rfl ho416 (mvT hZ416 (own_w hw 39 rfl)) (mvT hZ416 (own_w hw 40 rfl)) (mvT hZ416 (own_w hw 41 rfl)) (by decide) (backOfSH (W := 1) (rm7 l Z ar0 hw [] b383 a396 a416 s_EMPTY s_EMPTY b353 s_EMPTY s_EMPTY .null .null .null .null .null .null .null h416 n0 Z416 Ef427 Ff428 Ff429 Ff430 Ff431 Ff432 Ff433 Ff434 g_b383) hZ416 (own_w hw 41 rfl) (own_w hw 34 rfl) (by decide) (by decide) hEL CR416.1) (g := (mkF m 210 #[vI p0, vI p1, vI p2, vI p3, vI p4, vI v273, vI v279, vI v285, vI v291, vI v294, vI v297, vI v300, vI v303, vR b306, vR b343, vR b353, vR s_EMPTY, vR s_EMPTY, vR s_EMPTY, .unset, .unset] [(.ref s_EMPTY), (.ref s_EMPTY), (.ref b353), (.ref s_EMPTY), (.ref s_EMPTY), (.ref a416), (.ref a396), (.ref b383), (.ref b383)])) rfl (by rw [hml]; rfl) (Steps.refl _) (a := b383) (argsL := [(.ref a396), (.ref a416), (.ref s_EMPTY), (.ref s_EMPTY), (.ref b353), (.ref s_EMPTY), (.ref s_EMPTY)]) (rest := [(.ref b383)]) (lenOf pd_11 rfl) rfl (by show 2 * 0 + _ ≤ _; exact Nat.le_of_eq rfl) (hb hby at_210) (fun _ _ => ⟨rfl, e437, (by decide : 10 + 14 ≤ _), (by decide : 76 + 188 ≤ _)⟩)
     dsimp only [Pt.U, Pt.locs, Pt.cells, Pt.slots] at X439r hS439r hg439r l439 y439 z439 st439 hQ439 hC439
     subst l439 y439 z439
     obtain ⟨X439, hS439, hZ439, ho439⟩ := rebS (s := s) (vm0 := T416.vm) (n1 := T437.heap.size) hS416 (by rw [e437]; first | exact hk416 | exact Nat.le_refl _) X439r hS439r hg439r hZ416 ho416
     obtain ⟨h439, e439⟩ : ∃ h, T439.heap = h := ⟨_, rfl⟩
     rw [e439] at hQ439
     obtain ⟨rfl, N439q, K439q, Q439_0, Q439_1, Q439_2, Q439_3, Q439_4, Q439_5, Q439_6, Q439_7⟩ := hQ439
     have N439 := Fr.app N437 N439q
     have Z439 : n0 ≤ h439.size := Nat.le_trans Z416 K439q.1
     have K439 : Keep h0 h439 [] := K416.trans K439q (fun x hx => by cases List.mem_singleton.mp hx; exact Or.inr sz_b383)
     have Sf440 : Sta Z h439 "java/lang/String" "COMPACT_STRINGS" "Z" (.int gc1) := own_sta_keep Sf417 K439q (own_ns1 (own_ns_exa Ef427))
     have Sf441 : Sta Z h439 "jdk/internal/util/Preconditions" "SIOOBE_FORMATTER" "Ljava/util/function/BiFunction;" gf3 := own_sta_keep Sf418 K439q (own_ns1 (own_ns_exa Ef427))
     have Sf442 : Sta Z h439 "java/util/Optional" "EMPTY" "Ljava/util/Optional;" (.ref s_EMPTY) := own_sta_keep Sf419 K439q (own_ns1 (own_ns_exa Ef427))
     have Ef443 : Exa Z h439 s_EMPTY "java/util/Optional" := (Ef420).keep K439q
     have Ff444 : Fld Z h439 s_EMPTY "java/util/Optional" "value" "Ljava/lang/Object;" .null := (Ff421).keep K439q (fun q => absurd (List.mem_singleton.mp q) ne_s_EMPTY_b383)
     have Ef445 : Exa Z h439 b343 "java/lang/String" := (Ef422).keep K439q
     have Ff446 : Fld Z h439 b343 "java/lang/String" "value" "[B" (.ref b343b) := (Ff423).keep K439q (fun q => absurd (List.mem_singleton.mp q) ne_b343_b383)
     have Ff447 : Fld Z h439 b343 "java/lang/String" "coder" "B" (.int 0) := (Ff424).keep K439q (fun q => absurd (List.mem_singleton.mp q) ne_b343_b383)
     have Ef448 : Exa Z h439 b343b "[B" := (Ef425).keep K439q
     have Vf449 : Arv Z h439 b343b kb343b .byte (1 : Int32) ((([v294] : List Int32).map (fun c => c.toInt8.toInt32)).map Value.int) (.int 0) := (Vf426).keep K439q (fun q => absurd (List.mem_singleton.mp q) ne_b343b_b383)
     have Ef450 : Exa Z h439 b383 own_GU := (Ef427).keep K439q
     rw [e439] at hC439
     have CR439 := CR416.trans hC439
     have hk439 : T439.heap.size ≤ h439.size := by rw [e439]; exact Nat.le_refl _
     have pre451 : own_P p e below T439 (mkF m 213 #[vI p0, vI p1, vI p2, vI p3, vI p4, vI v273, vI v279, vI v285, vI v291, vI v294, vI v297, vI v300, vI v303, vR b306, vR b343, vR b353, vR s_EMPTY, vR s_EMPTY, vR s_EMPTY, .unset, .unset] [(.ref b383)]) s₁ (own_E m p0 p1 p2 p3 p4) := fun t k => pre438 t (st439.trans k)
     have pre452 : own_P p e below T439 (mkF m 217 #[vI p0, vI p1, vI p2, vI p3, vI p4, vI v273, vI v279, vI v285, vI v291, vI v294, vI v297, vI v300, vI v303, vR b306, vR b343, vR b353, vR s_EMPTY, vR s_EMPTY, vR s_EMPTY, vR b383, .unset] [(.ref b383)]) s₁ (own_E m p0 p1 p2 p3 p4) := by
      intro t k
      refine pre451 t ?_
      refine XS.astore X439.here hx rfl (hb hby at_213) rfl rfl (l' := #[vI p0, vI p1, vI p2, vI p3, vI p4, vI v273, vI v279, vI v285, vI v291, vI v294, vI v297, vI v300, vI v303, vR b306, vR b343, vR b353, vR s_EMPTY, vR s_EMPTY, vR s_EMPTY, vR b383, .unset]) rfl ?_
      refine XS.aload X439.here hx rfl (hb hby at_215) rfl rfl ?_
      exact k
     obtain ⟨cq453, kq453, q453a, q453b, q453c⟩ := isOf hZ439 e439 Q439_0
     obtain ⟨_, _, ⟨T453, L453, k453, n453⟩, -, X453r, hS453r, hg453r, ⟨Lc453, hQ453, l453, y453, z453, hC453⟩, st453⟩ := X439.virtualBackS hx (y := (⟨own_GU, "effectiveType", "()Ljava/lang/String;"⟩ : MethodName)) (z := (⟨own_GU, "effectiveType", "()Ljava/lang/String;"⟩ : MethodName)) ho439 (mvT hZ439 (own_w hw 73 rfl)) (mvT hZ439 (own_w hw 74 rfl)) (notFace_of_selects (args := #[]) (mvT hZ439 (own_w hw 76 rfl))) (mvT hZ439 (own_w hw 76 rfl)) (mvT hZ439 (own_w hw 75 rfl)) (by decide) (backOfSH (W := 0) (rm10_n l Z ar0 hw [] b383 s_EMPTY h439 n0 Z439 Q439_0 Q439_4 Ef443 Ff444) hZ439 (own_w hw 77 rfl) (own_w hw 34 rfl) (by decide) (by decide) hEL CR439.1) q453a q453c (g := (mkF m 217 #[vI p0, vI p1, vI p2, vI p3, vI p4, vI v273, vI v279, vI v285, vI v291, vI v294, vI v297, vI v300, vI v303, vR b306, vR b343, vR b353, vR s_EMPTY, vR s_EMPTY, vR s_EMPTY, vR b383, .unset] [(.ref b383)])) rfl (by rw [hml]; rfl) (Steps.refl _) (argsL := []) (rest := []) (lenOf pd_12 rfl) rfl (by show 2 * 0 + _ ≤ _; exact Nat.le_of_eq rfl) (hb hby at_217) (fun _ _ => ⟨rfl, e439, (by decide : 24 + 2 ≤ _), (by decide : 264 + 8 ≤ _)⟩)
     dsimp only [Pt.U, Pt.locs, Pt.cells, Pt.slots] at X453r hS453r hg453r l453 y453 z453 st453 hQ453 hC453
     subst l453 y453 z453
     obtain ⟨X453, hS453, hZ453, ho453⟩ := rebS (s := s) (vm0 := T439.vm) (n1 := T439.heap.size) hS439 (by rw [e439]; first | exact hk439 | exact Nat.le_refl _) X453r hS453r hg453r hZ439 ho439
     obtain ⟨h453, e453⟩ : ∃ h, T453.heap = h := ⟨_, rfl⟩
     rw [e453] at hQ453
     obtain ⟨b453, b453b, kb453b, rfl, N453q, K453q, Ob453_0, Ob453_1, Ob453_2, Ob453b_0⟩ := hQ453
     have N453 := Fr.app N439 N453q
     have Z453 : n0 ≤ h453.size := Nat.le_trans Z439 K453q.1
     have K453 : Keep h0 h453 [] := K439.trans K453q (fun x hx => absurd hx List.not_mem_nil)
     have Sf454 : Sta Z h453 "java/lang/String" "COMPACT_STRINGS" "Z" (.int gc1) := own_sta_keep0 Sf440 K453q
     have Sf455 : Sta Z h453 "jdk/internal/util/Preconditions" "SIOOBE_FORMATTER" "Ljava/util/function/BiFunction;" gf3 := own_sta_keep0 Sf441 K453q
     have Sf456 : Sta Z h453 "java/util/Optional" "EMPTY" "Ljava/util/Optional;" (.ref s_EMPTY) := own_sta_keep0 Sf442 K453q
     have Ef457 : Exa Z h453 s_EMPTY "java/util/Optional" := (Ef443).keep K453q
     have Ff458 : Fld Z h453 s_EMPTY "java/util/Optional" "value" "Ljava/lang/Object;" .null := (Ff444).keep K453q List.not_mem_nil
     have Ef459 : Exa Z h453 b343 "java/lang/String" := (Ef445).keep K453q
     have Ff460 : Fld Z h453 b343 "java/lang/String" "value" "[B" (.ref b343b) := (Ff446).keep K453q List.not_mem_nil
     have Ff461 : Fld Z h453 b343 "java/lang/String" "coder" "B" (.int 0) := (Ff447).keep K453q List.not_mem_nil
     have Ef462 : Exa Z h453 b343b "[B" := (Ef448).keep K453q
     have Vf463 : Arv Z h453 b343b kb343b .byte (1 : Int32) ((([v294] : List Int32).map (fun c => c.toInt8.toInt32)).map Value.int) (.int 0) := (Vf449).keep K453q List.not_mem_nil
     have Ef464 : Exa Z h453 b383 own_GU := (Q439_0).keep K453q
     have Ff465 : Fld Z h453 b383 own_GU "text" "Ljava/lang/String;" (.ref a396) := (Q439_1).keep K453q List.not_mem_nil
     have Ff466 : Fld Z h453 b383 own_GU "host" "Ljava/lang/String;" (.ref a416) := (Q439_2).keep K453q List.not_mem_nil
     have Ff467 : Fld Z h453 b383 own_GU "port" "Ljava/util/Optional;" (.ref s_EMPTY) := (Q439_3).keep K453q List.not_mem_nil
     have Ff468 : Fld Z h453 b383 own_GU "type" "Ljava/util/Optional;" (.ref s_EMPTY) := (Q439_4).keep K453q List.not_mem_nil
     have Ff469 : Fld Z h453 b383 own_GU "selector" "Ljava/lang/String;" (.ref b353) := (Q439_5).keep K453q List.not_mem_nil
     have Ff470 : Fld Z h453 b383 own_GU "search" "Ljava/util/Optional;" (.ref s_EMPTY) := (Q439_6).keep K453q List.not_mem_nil
     have Ff471 : Fld Z h453 b383 own_GU "gopherPlus" "Ljava/util/Optional;" (.ref s_EMPTY) := (Q439_7).keep K453q List.not_mem_nil
     rw [e453] at hC453
     have CR453 := CR439.trans hC453
     have hk453 : T453.heap.size ≤ h453.size := by rw [e453]; exact Nat.le_refl _
     have pre472 : own_P p e below T453 (mkF m 220 #[vI p0, vI p1, vI p2, vI p3, vI p4, vI v273, vI v279, vI v285, vI v291, vI v294, vI v297, vI v300, vI v303, vR b306, vR b343, vR b353, vR s_EMPTY, vR s_EMPTY, vR s_EMPTY, vR b383, .unset] [(.ref b453)]) s₁ (own_E m p0 p1 p2 p3 p4) := fun t k => pre452 t (st453.trans k)
     have pre473 : own_P p e below T453 (mkF m 244 #[vI p0, vI p1, vI p2, vI p3, vI p4, vI v273, vI v279, vI v285, vI v291, vI v294, vI v297, vI v300, vI v303, vR b306, vR b343, vR b353, vR s_EMPTY, vR s_EMPTY, vR s_EMPTY, vR b383, vR b453] [(.ref b453)]) s₁ (own_E m p0 p1 p2 p3 p4) := by
      intro t k
      refine pre472 t ?_
      refine XS.astore X453.here hx rfl (hb hby at_220) rfl rfl (l' := #[vI p0, vI p1, vI p2, vI p3, vI p4, vI v273, vI v279, vI v285, vI v291, vI v294, vI v297, vI v300, vI v303, vR b306, vR b343, vR b353, vR s_EMPTY, vR s_EMPTY, vR s_EMPTY, vR b383, vR b453]) rfl ?_
      refine XS.aload X453.here hx rfl (hb hby at_222) rfl rfl ?_
      refine XS.ifnonnullYes X453.here hx rfl (pc0 := 224) (pc' := 229) rfl (hb hby at_224) rfl (by decide) (by decide) ?_
      refine XS.iload X453.here hx rfl (hb hby at_229) rfl ?_
      refine XS.ifYes X453.here hx rfl (pc0 := 231) (pc' := 242) rfl (hb hby at_231) rfl ((if0 _ _).trans (teq hc139_368).1) (by decide) (by decide) ?_
      refine XS.aload X453.here hx rfl (hb hby at_242) rfl rfl ?_
      exact k
     obtain ⟨cq474, kq474, q474a, q474b, q474c⟩ := isOf hZ453 e453 Ob453_0
     obtain ⟨_, _, ⟨T474, L474, k474, n474⟩, -, X474, ⟨Lc474, hQ474, l474, y474, z474⟩, st474⟩ := X453.virtualBack hx (y := (⟨"java/lang/String", "length", "()I"⟩ : MethodName)) (z := (⟨"java/lang/String", "length", "()I"⟩ : MethodName)) ho453 (mvT hZ453 (own_w hw 87 rfl)) (mvT hZ453 (own_w hw 88 rfl)) (notFace_of_selects (args := #[]) (mvT hZ453 (own_w hw 90 rfl))) (mvT hZ453 (own_w hw 90 rfl)) (mvT hZ453 (own_w hw 89 rfl)) (by decide) (StrChars.Road.lenW (W := 0) hZ453 (own_wordsLen hw) (kI := 4) (own_w hw 11 rfl) Ob453_0 Ob453_2 Ob453_1 Ob453b_0 (own_hcdG (cs := [49]) (by decide)) (own_up [49] (by decide)) Sf454 P5 (Nat.le_of_ble_eq_true rfl) (by decide) (by decide)) q474a q474c (g := (mkF m 244 #[vI p0, vI p1, vI p2, vI p3, vI p4, vI v273, vI v279, vI v285, vI v291, vI v294, vI v297, vI v300, vI v303, vR b306, vR b343, vR b353, vR s_EMPTY, vR s_EMPTY, vR s_EMPTY, vR b383, vR b453] [(.ref b453)])) rfl (by rw [hml]; rfl) (Steps.refl _) (argsL := []) (rest := []) (lenOf pd_13 rfl) rfl (by show 2 * 0 + _ ≤ _; exact Nat.le_of_eq rfl) (hb hby at_244) (fun _ _ => ⟨rfl, e453, (by decide : 26 + 0 ≤ _), (by decide : 272 + 0 ≤ _)⟩)
     dsimp only [Pt.U, Pt.locs, Pt.cells, Pt.slots] at X474 l474 y474 z474 st474 hQ474
     subst l474 y474 z474
     obtain ⟨rfl, rfl, e474⟩ := hQ474
     try rw [List.append_nil] at X474
     have pre475 : own_P p e below T474 (mkF m 247 #[vI p0, vI p1, vI p2, vI p3, vI p4, vI v273, vI v279, vI v285, vI v291, vI v294, vI v297, vI v300, vI v303, vR b306, vR b343, vR b353, vR s_EMPTY, vR s_EMPTY, vR s_EMPTY, vR b383, vR b453] [(.int (Int32.ofNat ([49] : List Int32).length))]) s₁ (own_E m p0 p1 p2 p3 p4) := fun t k => pre473 t (st474.trans k)
     have pre476 : own_P p e below T474 (mkF m 248 #[vI p0, vI p1, vI p2, vI p3, vI p4, vI v273, vI v279, vI v285, vI v291, vI v294, vI v297, vI v300, vI v303, vR b306, vR b343, vR b353, vR s_EMPTY, vR s_EMPTY, vR s_EMPTY, vR b383, vR b453] [(.int 1), (.int (Int32.ofNat ([49] : List Int32).length))]) s₁ (own_E m p0 p1 p2 p3 p4) := by
      intro t k
      refine pre475 t ?_
      refine XS.iconst X474.here hx rfl (hb hby at_247) ?_
      exact k
     have hk477 : (Int32.ofNat ([49] : List Int32).length) = (1 : Int32) := (by decide)
     have pre478 : own_P p e below T474 (mkF m 254 #[vI p0, vI p1, vI p2, vI p3, vI p4, vI v273, vI v279, vI v285, vI v291, vI v294, vI v297, vI v300, vI v303, vR b306, vR b343, vR b353, vR s_EMPTY, vR s_EMPTY, vR s_EMPTY, vR b383, vR b453] [(.int 0), (.ref b453)]) s₁ (own_E m p0 p1 p2 p3 p4) := by
      intro t k
      refine pre476 t ?_
      refine XS.icmpNo X474.here hx rfl (hb hby at_248) rfl (teq hk477).2 ?_
      refine XS.aload X474.here hx rfl (hb hby at_251) rfl rfl ?_
      refine XS.iconst X474.here hx rfl (hb hby at_253) ?_
      exact k
     obtain ⟨cq479, kq479, q479a, q479b, q479c⟩ := isOf hZ453 e474 Ob453_0
     obtain ⟨_, _, ⟨T479, L479, k479, n479⟩, -, X479, ⟨Lc479, hQ479, l479, y479, z479⟩, st479⟩ := X474.virtualBack hx (y := (⟨"java/lang/String", "charAt", "(I)C"⟩ : MethodName)) (z := (⟨"java/lang/String", "charAt", "(I)C"⟩ : MethodName)) ho453 (mvT hZ453 (own_w hw 97 rfl)) (mvT hZ453 (own_w hw 98 rfl)) (notFace_of_selects (args := #[]) (mvT hZ453 (own_w hw 100 rfl))) (mvT hZ453 (own_w hw 100 rfl)) (mvT hZ453 (own_w hw 99 rfl)) (by decide) (StrChars.Road.chN (W := 0) hZ453 (own_wordsChN hw) (kI := 4) (own_w hw 11 rfl) Ob453_0 Ob453_2 Ob453_1 Ob453b_0 (own_hcdG (cs := [49]) (by decide)) (own_up [49] (by decide)) Sf454 P5 Sf455 rG3 (Nat.le_of_ble_eq_true rfl) (i := 0) (by decide) (j := (0 : Int32)) rfl (by decide) (by decide)) q479a q479c (g := (mkF m 254 #[vI p0, vI p1, vI p2, vI p3, vI p4, vI v273, vI v279, vI v285, vI v291, vI v294, vI v297, vI v300, vI v303, vR b306, vR b343, vR b353, vR s_EMPTY, vR s_EMPTY, vR s_EMPTY, vR b383, vR b453] [(.int 0), (.ref b453)])) rfl (by rw [hml]; rfl) (Steps.refl _) (argsL := [(.int 0)]) (rest := []) (lenOf pd_14 rfl) rfl (by show 2 * 0 + _ ≤ _; exact Nat.le_of_eq rfl) (hb hby at_254) (fun _ _ => ⟨rfl, e474, (by decide : 26 + 0 ≤ _), (by decide : 272 + 0 ≤ _)⟩)
     dsimp only [Pt.U, Pt.locs, Pt.cells, Pt.slots] at X479 l479 y479 z479 st479 hQ479
     subst l479 y479 z479
     obtain ⟨rfl, rfl, e479⟩ := hQ479
     try rw [List.append_nil] at X479
     have pre480 : own_P p e below T479 (mkF m 257 #[vI p0, vI p1, vI p2, vI p3, vI p4, vI v273, vI v279, vI v285, vI v291, vI v294, vI v297, vI v300, vI v303, vR b306, vR b343, vR b353, vR s_EMPTY, vR s_EMPTY, vR s_EMPTY, vR b383, vR b453] [(.int (([49] : List Int32).getD 0 0))]) s₁ (own_E m p0 p1 p2 p3 p4) := fun t k => pre478 t (st479.trans k)
     have pre481 : own_P p e below T479 (mkF m 259 #[vI p0, vI p1, vI p2, vI p3, vI p4, vI v273, vI v279, vI v285, vI v291, vI v294, vI v297, vI v300, vI v303, vR b306, vR b343, vR b353, vR s_EMPTY, vR s_EMPTY, vR s_EMPTY, vR b383, vR b453] [(.int 49), (.int (([49] : List Int32).getD 0 0))]) s₁ (own_E m p0 p1 p2 p3 p4) := by
      intro t k
      refine pre480 t ?_
      refine XS.bipush X479.here hx rfl (hb hby at_257) ?_
      exact k
     have hk482 : (([49] : List Int32).getD 0 0) = (49 : Int32) := (by decide)
     obtain ⟨fs, hr, hrun, hended, hRW⟩ := X479.leaveW (s := s) (vm₁ := T453.vm) hS453 (by rw [e479]; first | exact hk453 | exact Nat.le_refl _) (v := some (.int 1)) (fun h => by rw [Bd.returns] at h; cases h)
     refine ⟨_, _, pre481 _ ?_, hrun, hended, _, _, rfl, ?_, hRW.1, hRW.2.1, hRW.2.2.1, hRW.2.2.2.mono (by decide) (by decide)⟩
     ·
      refine XS.icmpNo X479.here hx rfl (hb hby at_259) rfl (teq hk482).2 ?_
      refine XS.iconst X479.here hx rfl (hb hby at_262) ?_
      refine XS.goto X479.here hx rfl (pc0 := 263) (pc' := 267) rfl (hb hby at_263) (by decide) (by decide) ?_
      exact retN X479 hx (t := .boolean) Bd.returns (by simp) (hb hby at_267) hr
     ·
      show Q0 Z p0 p1 p2 p3 p4 gc1 gf3 s_EMPTY h0 n0 _ T479.heap _
      rw [e479]
      exact ⟨rfl, N453⟩
    ·
     have pre483 : ∀ t, Steps p.tables e below (T375.setTop (mkF m 180 #[vI p0, vI p1, vI p2, vI p3, vI p4, vI v273, vI v279, vI v285, vI v291, vI v294, vI v297, vI v300, vI v303, vR b306, vR b343, vR b353, vR s_EMPTY, vR s_EMPTY, .unset, .unset, .unset] [(.ref b353)])) t → Steps p.tables e below (s₁.setTop (own_E m p0 p1 p2 p3 p4)) t := by
      intro t k
      refine pre377 t ?_
      refine XS.ifNo X375.here hx rfl (hb hby at_175) rfl ((if0 _ _).trans (feq hc175_378).1) ?_
      refine XS.aload X375.here hx rfl (hb hby at_178) rfl rfl ?_
      exact k
     obtain ⟨_, _, ⟨T484, L484, k484, n484⟩, -, X484, ⟨Lc484, hQ484, l484, y484, z484⟩, st484⟩ := Jvm.LawKit.callS X375 hx (y := (⟨"java/util/Optional", "of", "(Ljava/lang/Object;)Ljava/util/Optional;"⟩ : MethodName)) hown (mvT hZ (own_w hw 135 rfl)) (mvT hZ (own_w hw 136 rfl)) (mvT hZ (own_w hw 29 rfl)) (mvT hZ (own_w hw 137 rfl)) (by decide) (backOf (W := 0) (rm24 l Z ar0 hw [] b353 h353 n0 Z353) hZ (own_w hw 137 rfl) (own_w hw 29 rfl) (by decide) (by decide)) (g := (mkF m 180 #[vI p0, vI p1, vI p2, vI p3, vI p4, vI v273, vI v279, vI v285, vI v291, vI v294, vI v297, vI v300, vI v303, vR b306, vR b343, vR b353, vR s_EMPTY, vR s_EMPTY, .unset, .unset, .unset] [(.ref b353)])) rfl (by rw [hml]; rfl) (argsL := [(.ref b353)]) (rest := []) (lenOf pd_10 rfl) rfl (by show 2 * 0 + _ ≤ _; exact Nat.le_of_eq rfl) (hb hby at_180) (fun _ _ => ⟨rfl, e375, (by decide : 5 + 1 ≤ _), (by decide : 13 + 1 ≤ _)⟩)
     dsimp only [Pt.U, Pt.locs, Pt.cells, Pt.slots] at X484 l484 y484 z484 st484 hQ484
     subst l484 y484 z484
     obtain ⟨h484, e484⟩ : ∃ h, T484.heap = h := ⟨_, rfl⟩
     rw [e484] at hQ484
     obtain ⟨b484, rfl, N484q, K484q, y_b484, Ob484_0, Ob484_1⟩ := hQ484
     have N484 := Fr.app N375 N484q
     have ne_s_EMPTY_b484 : s_EMPTY ≠ b484 := Nat.ne_of_lt (Nat.lt_of_lt_of_le (Ef357).lt y_b484)
     have ne_b343_b484 : b343 ≠ b484 := Nat.ne_of_lt (Nat.lt_of_lt_of_le (Ef361).lt y_b484)
     have ne_b343b_b484 : b343b ≠ b484 := Nat.ne_of_lt (Nat.lt_of_lt_of_le (Ef364).lt y_b484)
     have g_b484 : n0 ≤ b484 := Nat.le_trans Z353 y_b484
     have sz_b484 : h0.size ≤ b484 := Nat.le_trans K353.1 y_b484
     have Z484 : n0 ≤ h484.size := Nat.le_trans Z353 K484q.1
     have hk484 := Nat.le_trans hk353 K484q.1
     have K484 : Keep h0 h484 [] := K353.trans K484q (fun x hx => absurd hx List.not_mem_nil)
     have CR484 := CR353.trans (CHr.keep K484q sf0 CR353.1)
     have Sf485 : Sta Z h484 "java/lang/String" "COMPACT_STRINGS" "Z" (.int gc1) := own_sta_keep0 Sf354 K484q
     have Sf486 : Sta Z h484 "jdk/internal/util/Preconditions" "SIOOBE_FORMATTER" "Ljava/util/function/BiFunction;" gf3 := own_sta_keep0 Sf355 K484q
     have Sf487 : Sta Z h484 "java/util/Optional" "EMPTY" "Ljava/util/Optional;" (.ref s_EMPTY) := own_sta_keep0 Sf356 K484q
     have Ef488 : Exa Z h484 s_EMPTY "java/util/Optional" := (Ef357).keep K484q
     have Ff489 : Fld Z h484 s_EMPTY "java/util/Optional" "value" "Ljava/lang/Object;" .null := (Ff358).keep K484q List.not_mem_nil
     have Ef490 : Exa Z h484 b343 "java/lang/String" := (Ef361).keep K484q
     have Ff491 : Fld Z h484 b343 "java/lang/String" "value" "[B" (.ref b343b) := (Ff362).keep K484q List.not_mem_nil
     have Ff492 : Fld Z h484 b343 "java/lang/String" "coder" "B" (.int 0) := (Ff363).keep K484q List.not_mem_nil
     have Ef493 : Exa Z h484 b343b "[B" := (Ef364).keep K484q
     have Vf494 : Arv Z h484 b343b kb343b .byte (1 : Int32) ((([v294] : List Int32).map (fun c => c.toInt8.toInt32)).map Value.int) (.int 0) := (Vf365).keep K484q List.not_mem_nil
     have pre495 : own_P p e below T484 (mkF m 183 #[vI p0, vI p1, vI p2, vI p3, vI p4, vI v273, vI v279, vI v285, vI v291, vI v294, vI v297, vI v300, vI v303, vR b306, vR b343, vR b353, vR s_EMPTY, vR s_EMPTY, .unset, .unset, .unset] [(.ref b484)]) s₁ (own_E m p0 p1 p2 p3 p4) := fun t k => pre483 t (st484 t k)
     have pre496 : own_P p e below T484 (mkF m 191 #[vI p0, vI p1, vI p2, vI p3, vI p4, vI v273, vI v279, vI v285, vI v291, vI v294, vI v297, vI v300, vI v303, vR b306, vR b343, vR b353, vR s_EMPTY, vR s_EMPTY, vR b484, .unset, .unset] []) s₁ (own_E m p0 p1 p2 p3 p4) := by
      intro t k
      refine pre495 t ?_
      refine XS.goto X484.here hx rfl (pc0 := 183) (pc' := 189) rfl (hb hby at_183) (by decide) (by decide) ?_
      refine XS.astore X484.here hx rfl (hb hby at_189) rfl rfl (l' := #[vI p0, vI p1, vI p2, vI p3, vI p4, vI v273, vI v279, vI v285, vI v291, vI v294, vI v297, vI v300, vI v303, vR b306, vR b343, vR b353, vR s_EMPTY, vR s_EMPTY, vR b484, .unset, .unset]) rfl ?_
      exact k
     obtain ⟨T497, h497, X497, e497, E497, A497, D497, -, st497⟩ := newO X484 hx hZ hown (own_w hw 32 rfl) (own_w hw 33 rfl) (own_w hw 34 rfl) e484 (g := (mkF m 191 #[vI p0, vI p1, vI p2, vI p3, vI p4, vI v273, vI v279, vI v285, vI v291, vI v294, vI v297, vI v300, vI v303, vR b306, vR b343, vR b353, vR s_EMPTY, vR s_EMPTY, vR b484, .unset, .unset] [])) rfl (hb hby at_191) (by decide) (by decide)
     obtain ⟨b497, g497⟩ : ∃ z, z = h484.size := ⟨_, rfl⟩
     rw [← g497] at A497 D497 st497
     have ne_s_EMPTY_b497 : s_EMPTY ≠ b497 := Nat.ne_of_lt (Nat.lt_of_lt_of_le (Ef488).lt (Nat.le_of_eq g497.symm))
     have ne_b343_b497 : b343 ≠ b497 := Nat.ne_of_lt (Nat.lt_of_lt_of_le (Ef490).lt (Nat.le_of_eq g497.symm))
     have ne_b343b_b497 : b343b ≠ b497 := Nat.ne_of_lt (Nat.lt_of_lt_of_le (Ef493).lt (Nat.le_of_eq g497.symm))
     have g_b497 : n0 ≤ b497 := Nat.le_trans Z484 (Nat.le_of_eq g497.symm)
     have sz_b497 : h0.size ≤ b497 := Nat.le_trans K484.1 (Nat.le_of_eq g497.symm)
     have Z497 : n0 ≤ h497.size := Nat.le_trans Z484 E497.1
     have K497 : Keep h0 h497 [] := K484.ext E497
     have hk497 := Nat.le_trans hk484 E497.1
     have CR497 := CR484.trans (CHr.ext E497 CR484.1)
     have Sf498 : Sta Z h497 "java/lang/String" "COMPACT_STRINGS" "Z" (.int gc1) := (Sf485).ext E497
     have Sf499 : Sta Z h497 "jdk/internal/util/Preconditions" "SIOOBE_FORMATTER" "Ljava/util/function/BiFunction;" gf3 := (Sf486).ext E497
     have Sf500 : Sta Z h497 "java/util/Optional" "EMPTY" "Ljava/util/Optional;" (.ref s_EMPTY) := (Sf487).ext E497
     have Ef501 : Exa Z h497 s_EMPTY "java/util/Optional" := (Ef488).ext E497
     have Ff502 : Fld Z h497 s_EMPTY "java/util/Optional" "value" "Ljava/lang/Object;" .null := (Ff489).ext E497
     have Ef503 : Exa Z h497 b343 "java/lang/String" := (Ef490).ext E497
     have Ff504 : Fld Z h497 b343 "java/lang/String" "value" "[B" (.ref b343b) := (Ff491).ext E497
     have Ff505 : Fld Z h497 b343 "java/lang/String" "coder" "B" (.int 0) := (Ff492).ext E497
     have Ef506 : Exa Z h497 b343b "[B" := (Ef493).ext E497
     have Vf507 : Arv Z h497 b343b kb343b .byte (1 : Int32) ((([v294] : List Int32).map (fun c => c.toInt8.toInt32)).map Value.int) (.int 0) := (Vf494).ext E497
     have Ftext_b497 : Fld Z h497 b497 own_GU "text" "Ljava/lang/String;" .null := D497 (Or.inr (own_w hw 60 rfl)) (ty := (.object "java/lang/String")) (by decide)
     have Fhost_b497 : Fld Z h497 b497 own_GU "host" "Ljava/lang/String;" .null := D497 (Or.inr (own_w hw 62 rfl)) (ty := (.object "java/lang/String")) (by decide)
     have Fport_b497 : Fld Z h497 b497 own_GU "port" "Ljava/util/Optional;" .null := D497 (Or.inr (own_w hw 64 rfl)) (ty := (.object "java/util/Optional")) (by decide)
     have Ftype_b497 : Fld Z h497 b497 own_GU "type" "Ljava/util/Optional;" .null := D497 (Or.inr (own_w hw 66 rfl)) (ty := (.object "java/util/Optional")) (by decide)
     have Fselector_b497 : Fld Z h497 b497 own_GU "selector" "Ljava/lang/String;" .null := D497 (Or.inr (own_w hw 68 rfl)) (ty := (.object "java/lang/String")) (by decide)
     have Fsearch_b497 : Fld Z h497 b497 own_GU "search" "Ljava/util/Optional;" .null := D497 (Or.inr (own_w hw 70 rfl)) (ty := (.object "java/util/Optional")) (by decide)
     have FgopherPlus_b497 : Fld Z h497 b497 own_GU "gopherPlus" "Ljava/util/Optional;" .null := D497 (Or.inr (own_w hw 72 rfl)) (ty := (.object "java/util/Optional")) (by decide)
     have pre508 : own_P p e below T497 (mkF m 194 #[vI p0, vI p1, vI p2, vI p3, vI p4, vI v273, vI v279, vI v285, vI v291, vI v294, vI v297, vI v300, vI v303, vR b306, vR b343, vR b353, vR s_EMPTY, vR s_EMPTY, vR b484, .unset, .unset] [(.ref b497)]) s₁ (own_E m p0 p1 p2 p3 p4) := fun t k => pre496 t (st497 t k)
     have pre509 : own_P p e below T497 (mkF m 195 #[vI p0, vI p1, vI p2, vI p3, vI p4, vI v273, vI v279, vI v285, vI v291, vI v294, vI v297, vI v300, vI v303, vR b306, vR b343, vR b353, vR s_EMPTY, vR s_EMPTY, vR b484, .unset, .unset] [(.ref b497), (.ref b497)]) s₁ (own_E m p0 p1 p2 p3 p4) := by
      intro t k
      refine pre508 t ?_
      refine XS.dup X497.here hx rfl (hb hby at_194) rfl rfl ?_
      exact k
     obtain ⟨a510, T510, h510, k510, X510, e510, E510, hS510, hk510, hZ510, ho510, hC510, -, st510⟩ := ldcOH (s := s) (vm0 := s.vm) X497 hx hZ hown (own_w hw 35 rfl) (own_strW hw) e497 hS0 hk497 hEL CR497.1 (g := (mkF m 195 #[vI p0, vI p1, vI p2, vI p3, vI p4, vI v273, vI v279, vI v285, vI v291, vI v294, vI v297, vI v300, vI v303, vR b306, vR b343, vR b353, vR s_EMPTY, vR s_EMPTY, vR b484, .unset, .unset] [(.ref b497), (.ref b497)])) rfl (hb hby at_195) (n := 44) (by decide) (by decide) (by decide) (by decide)
     have CR510 := CR497.trans hC510
     have Z510 : n0 ≤ h510.size := Nat.le_trans Z497 E510.1
     have K510 : Keep h0 h510 [] := K497.ext E510
     have Sf511 : Sta Z h510 "java/lang/String" "COMPACT_STRINGS" "Z" (.int gc1) := (Sf498).ext E510
     have Sf512 : Sta Z h510 "jdk/internal/util/Preconditions" "SIOOBE_FORMATTER" "Ljava/util/function/BiFunction;" gf3 := (Sf499).ext E510
     have Sf513 : Sta Z h510 "java/util/Optional" "EMPTY" "Ljava/util/Optional;" (.ref s_EMPTY) := (Sf500).ext E510
     have Ef514 : Exa Z h510 s_EMPTY "java/util/Optional" := (Ef501).ext E510
     have Ff515 : Fld Z h510 s_EMPTY "java/util/Optional" "value" "Ljava/lang/Object;" .null := (Ff502).ext E510
     have Ef516 : Exa Z h510 b343 "java/lang/String" := (Ef503).ext E510
     have Ff517 : Fld Z h510 b343 "java/lang/String" "value" "[B" (.ref b343b) := (Ff504).ext E510
     have Ff518 : Fld Z h510 b343 "java/lang/String" "coder" "B" (.int 0) := (Ff505).ext E510
     have Ef519 : Exa Z h510 b343b "[B" := (Ef506).ext E510
     have Vf520 : Arv Z h510 b343b kb343b .byte (1 : Int32) ((([v294] : List Int32).map (fun c => c.toInt8.toInt32)).map Value.int) (.int 0) := (Vf507).ext E510
     have Ef521 : Exa Z h510 b497 own_GU := (A497).ext E510
     have Ff522 : Fld Z h510 b497 own_GU "text" "Ljava/lang/String;" .null := (Ftext_b497).ext E510
     have Ff523 : Fld Z h510 b497 own_GU "host" "Ljava/lang/String;" .null := (Fhost_b497).ext E510
     have Ff524 : Fld Z h510 b497 own_GU "port" "Ljava/util/Optional;" .null := (Fport_b497).ext E510
     have Ff525 : Fld Z h510 b497 own_GU "type" "Ljava/util/Optional;" .null := (Ftype_b497).ext E510
     have Ff526 : Fld Z h510 b497 own_GU "selector" "Ljava/lang/String;" .null := (Fselector_b497).ext E510
     have Ff527 : Fld Z h510 b497 own_GU "search" "Ljava/util/Optional;" .null := (Fsearch_b497).ext E510
     have Ff528 : Fld Z h510 b497 own_GU "gopherPlus" "Ljava/util/Optional;" .null := (FgopherPlus_b497).ext E510
     have pre529 : own_P p e below T510 (mkF m 197 #[vI p0, vI p1, vI p2, vI p3, vI p4, vI v273, vI v279, vI v285, vI v291, vI v294, vI v297, vI v300, vI v303, vR b306, vR b343, vR b353, vR s_EMPTY, vR s_EMPTY, vR b484, .unset, .unset] [(.ref a510), (.ref b497), (.ref b497)]) s₁ (own_E m p0 p1 p2 p3 p4) := fun t k => pre509 t (st510 t k)
     obtain ⟨a530, T530, h530, k530, X530, e530, E530, hS530, hk530, hZ530, ho530, hC530, -, st530⟩ := ldcOH (s := s) (vm0 := T510.vm) X510 hx hZ510 ho510 (own_w hw 38 rfl) (own_strW hw) e510 hS510 hk510 hEL CR510.1 (g := (mkF m 197 #[vI p0, vI p1, vI p2, vI p3, vI p4, vI v273, vI v279, vI v285, vI v291, vI v294, vI v297, vI v300, vI v303, vR b306, vR b343, vR b353, vR s_EMPTY, vR s_EMPTY, vR b484, .unset, .unset] [(.ref a510), (.ref b497), (.ref b497)])) rfl (hb hby at_197) (n := 4) (by decide) (by decide) (by decide) (by decide)
     have CR530 := CR510.trans hC530
     have Z530 : n0 ≤ h530.size := Nat.le_trans Z510 E530.1
     have K530 : Keep h0 h530 [] := K510.ext E530
     have Sf531 : Sta Z h530 "java/lang/String" "COMPACT_STRINGS" "Z" (.int gc1) := (Sf511).ext E530
     have Sf532 : Sta Z h530 "jdk/internal/util/Preconditions" "SIOOBE_FORMATTER" "Ljava/util/function/BiFunction;" gf3 := (Sf512).ext E530
     have Sf533 : Sta Z h530 "java/util/Optional" "EMPTY" "Ljava/util/Optional;" (.ref s_EMPTY) := (Sf513).ext E530
     have Ef534 : Exa Z h530 s_EMPTY "java/util/Optional" := (Ef514).ext E530
     have Ff535 : Fld Z h530 s_EMPTY "java/util/Optional" "value" "Ljava/lang/Object;" .null := (Ff515).ext E530
     have Ef536 : Exa Z h530 b343 "java/lang/String" := (Ef516).ext E530
     have Ff537 : Fld Z h530 b343 "java/lang/String" "value" "[B" (.ref b343b) := (Ff517).ext E530
     have Ff538 : Fld Z h530 b343 "java/lang/String" "coder" "B" (.int 0) := (Ff518).ext E530
     have Ef539 : Exa Z h530 b343b "[B" := (Ef519).ext E530
     have Vf540 : Arv Z h530 b343b kb343b .byte (1 : Int32) ((([v294] : List Int32).map (fun c => c.toInt8.toInt32)).map Value.int) (.int 0) := (Vf520).ext E530
     have Ef541 : Exa Z h530 b497 own_GU := (Ef521).ext E530
     have Ff542 : Fld Z h530 b497 own_GU "text" "Ljava/lang/String;" .null := (Ff522).ext E530
     have Ff543 : Fld Z h530 b497 own_GU "host" "Ljava/lang/String;" .null := (Ff523).ext E530
     have Ff544 : Fld Z h530 b497 own_GU "port" "Ljava/util/Optional;" .null := (Ff524).ext E530
     have Ff545 : Fld Z h530 b497 own_GU "type" "Ljava/util/Optional;" .null := (Ff525).ext E530
     have Ff546 : Fld Z h530 b497 own_GU "selector" "Ljava/lang/String;" .null := (Ff526).ext E530
     have Ff547 : Fld Z h530 b497 own_GU "search" "Ljava/util/Optional;" .null := (Ff527).ext E530
     have Ff548 : Fld Z h530 b497 own_GU "gopherPlus" "Ljava/util/Optional;" .null := (Ff528).ext E530
     have pre549 : own_P p e below T530 (mkF m 199 #[vI p0, vI p1, vI p2, vI p3, vI p4, vI v273, vI v279, vI v285, vI v291, vI v294, vI v297, vI v300, vI v303, vR b306, vR b343, vR b353, vR s_EMPTY, vR s_EMPTY, vR b484, .unset, .unset] [(.ref a530), (.ref a510), (.ref b497), (.ref b497)]) s₁ (own_E m p0 p1 p2 p3 p4) := fun t k => pre529 t (st530 t k)
     have pre550 : own_P p e below T530 (mkF m 207 #[vI p0, vI p1, vI p2, vI p3, vI p4, vI v273, vI v279, vI v285, vI v291, vI v294, vI v297, vI v300, vI v303, vR b306, vR b343, vR b353, vR s_EMPTY, vR s_EMPTY, vR b484, .unset, .unset] [(.ref s_EMPTY), (.ref b353), (.ref s_EMPTY), (.ref b484), (.ref a530), (.ref a510), (.ref b497), (.ref b497)]) s₁ (own_E m p0 p1 p2 p3 p4) := by
      intro t k
      refine pre549 t ?_
      refine XS.aload X530.here hx rfl (hb hby at_199) rfl rfl ?_
      refine XS.aload X530.here hx rfl (hb hby at_201) rfl rfl ?_
      refine XS.aload X530.here hx rfl (hb hby at_203) rfl rfl ?_
      refine XS.aload X530.here hx rfl (hb hby at_205) rfl rfl ?_
      exact k
     obtain ⟨_, _, ⟨T551, L551, k551, n551⟩, -, X551, ⟨Lc551, hQ551, l551, y551, z551⟩, st551⟩ := Jvm.LawKit.callS X530 hx (y := (⟨"java/util/Optional", "empty", "()Ljava/util/Optional;"⟩ : MethodName)) ho530 (mvT hZ530 (own_w hw 27 rfl)) (mvT hZ530 (own_w hw 28 rfl)) (mvT hZ530 (own_w hw 29 rfl)) (mvT hZ530 (own_w hw 30 rfl)) (by decide) (backOf (W := 8) (rm6 l Z ar0 hw [] s_EMPTY h530 n0 Z530 Sf533) hZ530 (own_w hw 30 rfl) (own_w hw 29 rfl) (by decide) (by decide)) (g := (mkF m 207 #[vI p0, vI p1, vI p2, vI p3, vI p4, vI v273, vI v279, vI v285, vI v291, vI v294, vI v297, vI v300, vI v303, vR b306, vR b343, vR b353, vR s_EMPTY, vR s_EMPTY, vR b484, .unset, .unset] [(.ref s_EMPTY), (.ref b353), (.ref s_EMPTY), (.ref b484), (.ref a530), (.ref a510), (.ref b497), (.ref b497)])) rfl (by rw [hml]; rfl) (argsL := []) (rest := [(.ref s_EMPTY), (.ref b353), (.ref s_EMPTY), (.ref b484), (.ref a530), (.ref a510), (.ref b497), (.ref b497)]) (lenOf pd_9 rfl) rfl (by show 2 * 0 + _ ≤ _; exact Nat.le_of_eq rfl) (hb hby at_207) (fun _ _ => ⟨rfl, e530, (by decide : 11 + 0 ≤ _), (by decide : 77 + 0 ≤ _)⟩)
     dsimp only [Pt.U, Pt.locs, Pt.cells, Pt.slots] at X551 l551 y551 z551 st551 hQ551
     subst l551 y551 z551
     obtain ⟨rfl, N551q, e551⟩ := hQ551
     have N551 := Fr.app N484 N551q
     have pre552 : own_P p e below T551 (mkF m 210 #[vI p0, vI p1, vI p2, vI p3, vI p4, vI v273, vI v279, vI v285, vI v291, vI v294, vI v297, vI v300, vI v303, vR b306, vR b343, vR b353, vR s_EMPTY, vR s_EMPTY, vR b484, .unset, .unset] [(.ref s_EMPTY), (.ref s_EMPTY), (.ref b353), (.ref s_EMPTY), (.ref b484), (.ref a530), (.ref a510), (.ref b497), (.ref b497)]) s₁ (own_E m p0 p1 p2 p3 p4) := fun t k => pre550 t (st551 t k)
     obtain ⟨_, _, ⟨T553, L553, k553, n553⟩, -, X553r, hS553r, hg553r, ⟨Lc553, hQ553, l553, y553, z553, hC553⟩, st553⟩ := X551.specialBackS hx (y := (⟨own_GU, "<init>", "(Ljava/lang/String;Ljava/lang/String;Ljava/util/Optional;Ljava/util/Optional;Ljava/lang/String;Ljava/util/Optional;Ljava/util/Optional;)V"⟩ : MethodName)) rfl ho530 (mvT hZ530 (own_w hw 39 rfl)) (mvT hZ530 (own_w hw 40 rfl)) (mvT hZ530 (own_w hw 41 rfl)) (by decide) (backOfSH (W := 1) (rm7 l Z ar0 hw [] b497 a510 a530 b484 s_EMPTY b353 s_EMPTY s_EMPTY .null .null .null .null .null .null .null h530 n0 Z530 Ef541 Ff542 Ff543 Ff544 Ff545 Ff546 Ff547 Ff548 g_b497) hZ530 (own_w hw 41 rfl) (own_w hw 34 rfl) (by decide) (by decide) hEL CR530.1) (g := (mkF m 210 #[vI p0, vI p1, vI p2, vI p3, vI p4, vI v273, vI v279, vI v285, vI v291, vI v294, vI v297, vI v300, vI v303, vR b306, vR b343, vR b353, vR s_EMPTY, vR s_EMPTY, vR b484, .unset, .unset] [(.ref s_EMPTY), (.ref s_EMPTY), (.ref b353), (.ref s_EMPTY), (.ref b484), (.ref a530), (.ref a510), (.ref b497), (.ref b497)])) rfl (by rw [hml]; rfl) (Steps.refl _) (a := b497) (argsL := [(.ref a510), (.ref a530), (.ref b484), (.ref s_EMPTY), (.ref b353), (.ref s_EMPTY), (.ref s_EMPTY)]) (rest := [(.ref b497)]) (lenOf pd_11 rfl) rfl (by show 2 * 0 + _ ≤ _; exact Nat.le_of_eq rfl) (hb hby at_210) (fun _ _ => ⟨rfl, e551, (by decide : 11 + 14 ≤ _), (by decide : 77 + 188 ≤ _)⟩)
     dsimp only [Pt.U, Pt.locs, Pt.cells, Pt.slots] at X553r hS553r hg553r l553 y553 z553 st553 hQ553 hC553
     subst l553 y553 z553
     obtain ⟨X553, hS553, hZ553, ho553⟩ := rebS (s := s) (vm0 := T530.vm) (n1 := T551.heap.size) hS530 (by rw [e551]; first | exact hk530 | exact Nat.le_refl _) X553r hS553r hg553r hZ530 ho530
     obtain ⟨h553, e553⟩ : ∃ h, T553.heap = h := ⟨_, rfl⟩
     rw [e553] at hQ553
     obtain ⟨rfl, N553q, K553q, Q553_0, Q553_1, Q553_2, Q553_3, Q553_4, Q553_5, Q553_6, Q553_7⟩ := hQ553
     have N553 := Fr.app N551 N553q
     have Z553 : n0 ≤ h553.size := Nat.le_trans Z530 K553q.1
     have K553 : Keep h0 h553 [] := K530.trans K553q (fun x hx => by cases List.mem_singleton.mp hx; exact Or.inr sz_b497)
     have Sf554 : Sta Z h553 "java/lang/String" "COMPACT_STRINGS" "Z" (.int gc1) := own_sta_keep Sf531 K553q (own_ns1 (own_ns_exa Ef541))
     have Sf555 : Sta Z h553 "jdk/internal/util/Preconditions" "SIOOBE_FORMATTER" "Ljava/util/function/BiFunction;" gf3 := own_sta_keep Sf532 K553q (own_ns1 (own_ns_exa Ef541))
     have Sf556 : Sta Z h553 "java/util/Optional" "EMPTY" "Ljava/util/Optional;" (.ref s_EMPTY) := own_sta_keep Sf533 K553q (own_ns1 (own_ns_exa Ef541))
     have Ef557 : Exa Z h553 s_EMPTY "java/util/Optional" := (Ef534).keep K553q
     have Ff558 : Fld Z h553 s_EMPTY "java/util/Optional" "value" "Ljava/lang/Object;" .null := (Ff535).keep K553q (fun q => absurd (List.mem_singleton.mp q) ne_s_EMPTY_b497)
     have Ef559 : Exa Z h553 b343 "java/lang/String" := (Ef536).keep K553q
     have Ff560 : Fld Z h553 b343 "java/lang/String" "value" "[B" (.ref b343b) := (Ff537).keep K553q (fun q => absurd (List.mem_singleton.mp q) ne_b343_b497)
     have Ff561 : Fld Z h553 b343 "java/lang/String" "coder" "B" (.int 0) := (Ff538).keep K553q (fun q => absurd (List.mem_singleton.mp q) ne_b343_b497)
     have Ef562 : Exa Z h553 b343b "[B" := (Ef539).keep K553q
     have Vf563 : Arv Z h553 b343b kb343b .byte (1 : Int32) ((([v294] : List Int32).map (fun c => c.toInt8.toInt32)).map Value.int) (.int 0) := (Vf540).keep K553q (fun q => absurd (List.mem_singleton.mp q) ne_b343b_b497)
     have Ef564 : Exa Z h553 b497 own_GU := (Ef541).keep K553q
     rw [e553] at hC553
     have CR553 := CR530.trans hC553
     have hk553 : T553.heap.size ≤ h553.size := by rw [e553]; exact Nat.le_refl _
     have pre565 : own_P p e below T553 (mkF m 213 #[vI p0, vI p1, vI p2, vI p3, vI p4, vI v273, vI v279, vI v285, vI v291, vI v294, vI v297, vI v300, vI v303, vR b306, vR b343, vR b353, vR s_EMPTY, vR s_EMPTY, vR b484, .unset, .unset] [(.ref b497)]) s₁ (own_E m p0 p1 p2 p3 p4) := fun t k => pre552 t (st553.trans k)
     have pre566 : own_P p e below T553 (mkF m 217 #[vI p0, vI p1, vI p2, vI p3, vI p4, vI v273, vI v279, vI v285, vI v291, vI v294, vI v297, vI v300, vI v303, vR b306, vR b343, vR b353, vR s_EMPTY, vR s_EMPTY, vR b484, vR b497, .unset] [(.ref b497)]) s₁ (own_E m p0 p1 p2 p3 p4) := by
      intro t k
      refine pre565 t ?_
      refine XS.astore X553.here hx rfl (hb hby at_213) rfl rfl (l' := #[vI p0, vI p1, vI p2, vI p3, vI p4, vI v273, vI v279, vI v285, vI v291, vI v294, vI v297, vI v300, vI v303, vR b306, vR b343, vR b353, vR s_EMPTY, vR s_EMPTY, vR b484, vR b497, .unset]) rfl ?_
      refine XS.aload X553.here hx rfl (hb hby at_215) rfl rfl ?_
      exact k
     obtain ⟨cq567, kq567, q567a, q567b, q567c⟩ := isOf hZ553 e553 Q553_0
     obtain ⟨_, _, ⟨T567, L567, k567, n567⟩, -, X567r, hS567r, hg567r, ⟨Lc567, hQ567, l567, y567, z567, hC567⟩, st567⟩ := X553.virtualBackS hx (y := (⟨own_GU, "effectiveType", "()Ljava/lang/String;"⟩ : MethodName)) (z := (⟨own_GU, "effectiveType", "()Ljava/lang/String;"⟩ : MethodName)) ho553 (mvT hZ553 (own_w hw 73 rfl)) (mvT hZ553 (own_w hw 74 rfl)) (notFace_of_selects (args := #[]) (mvT hZ553 (own_w hw 76 rfl))) (mvT hZ553 (own_w hw 76 rfl)) (mvT hZ553 (own_w hw 75 rfl)) (by decide) (backOfSH (W := 0) (rm10_n l Z ar0 hw [] b497 s_EMPTY h553 n0 Z553 Q553_0 Q553_4 Ef557 Ff558) hZ553 (own_w hw 77 rfl) (own_w hw 34 rfl) (by decide) (by decide) hEL CR553.1) q567a q567c (g := (mkF m 217 #[vI p0, vI p1, vI p2, vI p3, vI p4, vI v273, vI v279, vI v285, vI v291, vI v294, vI v297, vI v300, vI v303, vR b306, vR b343, vR b353, vR s_EMPTY, vR s_EMPTY, vR b484, vR b497, .unset] [(.ref b497)])) rfl (by rw [hml]; rfl) (Steps.refl _) (argsL := []) (rest := []) (lenOf pd_12 rfl) rfl (by show 2 * 0 + _ ≤ _; exact Nat.le_of_eq rfl) (hb hby at_217) (fun _ _ => ⟨rfl, e553, (by decide : 25 + 2 ≤ _), (by decide : 265 + 8 ≤ _)⟩)
     dsimp only [Pt.U, Pt.locs, Pt.cells, Pt.slots] at X567r hS567r hg567r l567 y567 z567 st567 hQ567 hC567
     subst l567 y567 z567
     obtain ⟨X567, hS567, hZ567, ho567⟩ := rebS (s := s) (vm0 := T553.vm) (n1 := T553.heap.size) hS553 (by rw [e553]; first | exact hk553 | exact Nat.le_refl _) X567r hS567r hg567r hZ553 ho553
     obtain ⟨h567, e567⟩ : ∃ h, T567.heap = h := ⟨_, rfl⟩
     rw [e567] at hQ567
     obtain ⟨b567, b567b, kb567b, rfl, N567q, K567q, Ob567_0, Ob567_1, Ob567_2, Ob567b_0⟩ := hQ567
     have N567 := Fr.app N553 N567q
     have Z567 : n0 ≤ h567.size := Nat.le_trans Z553 K567q.1
     have K567 : Keep h0 h567 [] := K553.trans K567q (fun x hx => absurd hx List.not_mem_nil)
     have Sf568 : Sta Z h567 "java/lang/String" "COMPACT_STRINGS" "Z" (.int gc1) := own_sta_keep0 Sf554 K567q
     have Sf569 : Sta Z h567 "jdk/internal/util/Preconditions" "SIOOBE_FORMATTER" "Ljava/util/function/BiFunction;" gf3 := own_sta_keep0 Sf555 K567q
     have Sf570 : Sta Z h567 "java/util/Optional" "EMPTY" "Ljava/util/Optional;" (.ref s_EMPTY) := own_sta_keep0 Sf556 K567q
     have Ef571 : Exa Z h567 s_EMPTY "java/util/Optional" := (Ef557).keep K567q
     have Ff572 : Fld Z h567 s_EMPTY "java/util/Optional" "value" "Ljava/lang/Object;" .null := (Ff558).keep K567q List.not_mem_nil
     have Ef573 : Exa Z h567 b343 "java/lang/String" := (Ef559).keep K567q
     have Ff574 : Fld Z h567 b343 "java/lang/String" "value" "[B" (.ref b343b) := (Ff560).keep K567q List.not_mem_nil
     have Ff575 : Fld Z h567 b343 "java/lang/String" "coder" "B" (.int 0) := (Ff561).keep K567q List.not_mem_nil
     have Ef576 : Exa Z h567 b343b "[B" := (Ef562).keep K567q
     have Vf577 : Arv Z h567 b343b kb343b .byte (1 : Int32) ((([v294] : List Int32).map (fun c => c.toInt8.toInt32)).map Value.int) (.int 0) := (Vf563).keep K567q List.not_mem_nil
     have Ef578 : Exa Z h567 b497 own_GU := (Q553_0).keep K567q
     have Ff579 : Fld Z h567 b497 own_GU "text" "Ljava/lang/String;" (.ref a510) := (Q553_1).keep K567q List.not_mem_nil
     have Ff580 : Fld Z h567 b497 own_GU "host" "Ljava/lang/String;" (.ref a530) := (Q553_2).keep K567q List.not_mem_nil
     have Ff581 : Fld Z h567 b497 own_GU "port" "Ljava/util/Optional;" (.ref b484) := (Q553_3).keep K567q List.not_mem_nil
     have Ff582 : Fld Z h567 b497 own_GU "type" "Ljava/util/Optional;" (.ref s_EMPTY) := (Q553_4).keep K567q List.not_mem_nil
     have Ff583 : Fld Z h567 b497 own_GU "selector" "Ljava/lang/String;" (.ref b353) := (Q553_5).keep K567q List.not_mem_nil
     have Ff584 : Fld Z h567 b497 own_GU "search" "Ljava/util/Optional;" (.ref s_EMPTY) := (Q553_6).keep K567q List.not_mem_nil
     have Ff585 : Fld Z h567 b497 own_GU "gopherPlus" "Ljava/util/Optional;" (.ref s_EMPTY) := (Q553_7).keep K567q List.not_mem_nil
     rw [e567] at hC567
     have CR567 := CR553.trans hC567
     have hk567 : T567.heap.size ≤ h567.size := by rw [e567]; exact Nat.le_refl _
     have pre586 : own_P p e below T567 (mkF m 220 #[vI p0, vI p1, vI p2, vI p3, vI p4, vI v273, vI v279, vI v285, vI v291, vI v294, vI v297, vI v300, vI v303, vR b306, vR b343, vR b353, vR s_EMPTY, vR s_EMPTY, vR b484, vR b497, .unset] [(.ref b567)]) s₁ (own_E m p0 p1 p2 p3 p4) := fun t k => pre566 t (st567.trans k)
     have pre587 : own_P p e below T567 (mkF m 244 #[vI p0, vI p1, vI p2, vI p3, vI p4, vI v273, vI v279, vI v285, vI v291, vI v294, vI v297, vI v300, vI v303, vR b306, vR b343, vR b353, vR s_EMPTY, vR s_EMPTY, vR b484, vR b497, vR b567] [(.ref b567)]) s₁ (own_E m p0 p1 p2 p3 p4) := by
      intro t k
      refine pre586 t ?_
      refine XS.astore X567.here hx rfl (hb hby at_220) rfl rfl (l' := #[vI p0, vI p1, vI p2, vI p3, vI p4, vI v273, vI v279, vI v285, vI v291, vI v294, vI v297, vI v300, vI v303, vR b306, vR b343, vR b353, vR s_EMPTY, vR s_EMPTY, vR b484, vR b497, vR b567]) rfl ?_
      refine XS.aload X567.here hx rfl (hb hby at_222) rfl rfl ?_
      refine XS.ifnonnullYes X567.here hx rfl (pc0 := 224) (pc' := 229) rfl (hb hby at_224) rfl (by decide) (by decide) ?_
      refine XS.iload X567.here hx rfl (hb hby at_229) rfl ?_
      refine XS.ifYes X567.here hx rfl (pc0 := 231) (pc' := 242) rfl (hb hby at_231) rfl ((if0 _ _).trans (teq hc139_368).1) (by decide) (by decide) ?_
      refine XS.aload X567.here hx rfl (hb hby at_242) rfl rfl ?_
      exact k
     obtain ⟨cq588, kq588, q588a, q588b, q588c⟩ := isOf hZ567 e567 Ob567_0
     obtain ⟨_, _, ⟨T588, L588, k588, n588⟩, -, X588, ⟨Lc588, hQ588, l588, y588, z588⟩, st588⟩ := X567.virtualBack hx (y := (⟨"java/lang/String", "length", "()I"⟩ : MethodName)) (z := (⟨"java/lang/String", "length", "()I"⟩ : MethodName)) ho567 (mvT hZ567 (own_w hw 87 rfl)) (mvT hZ567 (own_w hw 88 rfl)) (notFace_of_selects (args := #[]) (mvT hZ567 (own_w hw 90 rfl))) (mvT hZ567 (own_w hw 90 rfl)) (mvT hZ567 (own_w hw 89 rfl)) (by decide) (StrChars.Road.lenW (W := 0) hZ567 (own_wordsLen hw) (kI := 4) (own_w hw 11 rfl) Ob567_0 Ob567_2 Ob567_1 Ob567b_0 (own_hcdG (cs := [49]) (by decide)) (own_up [49] (by decide)) Sf568 P5 (Nat.le_of_ble_eq_true rfl) (by decide) (by decide)) q588a q588c (g := (mkF m 244 #[vI p0, vI p1, vI p2, vI p3, vI p4, vI v273, vI v279, vI v285, vI v291, vI v294, vI v297, vI v300, vI v303, vR b306, vR b343, vR b353, vR s_EMPTY, vR s_EMPTY, vR b484, vR b497, vR b567] [(.ref b567)])) rfl (by rw [hml]; rfl) (Steps.refl _) (argsL := []) (rest := []) (lenOf pd_13 rfl) rfl (by show 2 * 0 + _ ≤ _; exact Nat.le_of_eq rfl) (hb hby at_244) (fun _ _ => ⟨rfl, e567, (by decide : 27 + 0 ≤ _), (by decide : 273 + 0 ≤ _)⟩)
     dsimp only [Pt.U, Pt.locs, Pt.cells, Pt.slots] at X588 l588 y588 z588 st588 hQ588
     subst l588 y588 z588
     obtain ⟨rfl, rfl, e588⟩ := hQ588
     try rw [List.append_nil] at X588
     have pre589 : own_P p e below T588 (mkF m 247 #[vI p0, vI p1, vI p2, vI p3, vI p4, vI v273, vI v279, vI v285, vI v291, vI v294, vI v297, vI v300, vI v303, vR b306, vR b343, vR b353, vR s_EMPTY, vR s_EMPTY, vR b484, vR b497, vR b567] [(.int (Int32.ofNat ([49] : List Int32).length))]) s₁ (own_E m p0 p1 p2 p3 p4) := fun t k => pre587 t (st588.trans k)
     have pre590 : own_P p e below T588 (mkF m 248 #[vI p0, vI p1, vI p2, vI p3, vI p4, vI v273, vI v279, vI v285, vI v291, vI v294, vI v297, vI v300, vI v303, vR b306, vR b343, vR b353, vR s_EMPTY, vR s_EMPTY, vR b484, vR b497, vR b567] [(.int 1), (.int (Int32.ofNat ([49] : List Int32).length))]) s₁ (own_E m p0 p1 p2 p3 p4) := by
      intro t k
      refine pre589 t ?_
      refine XS.iconst X588.here hx rfl (hb hby at_247) ?_
      exact k
     have hk591 : (Int32.ofNat ([49] : List Int32).length) = (1 : Int32) := (by decide)
     have pre592 : own_P p e below T588 (mkF m 254 #[vI p0, vI p1, vI p2, vI p3, vI p4, vI v273, vI v279, vI v285, vI v291, vI v294, vI v297, vI v300, vI v303, vR b306, vR b343, vR b353, vR s_EMPTY, vR s_EMPTY, vR b484, vR b497, vR b567] [(.int 0), (.ref b567)]) s₁ (own_E m p0 p1 p2 p3 p4) := by
      intro t k
      refine pre590 t ?_
      refine XS.icmpNo X588.here hx rfl (hb hby at_248) rfl (teq hk591).2 ?_
      refine XS.aload X588.here hx rfl (hb hby at_251) rfl rfl ?_
      refine XS.iconst X588.here hx rfl (hb hby at_253) ?_
      exact k
     obtain ⟨cq593, kq593, q593a, q593b, q593c⟩ := isOf hZ567 e588 Ob567_0
     obtain ⟨_, _, ⟨T593, L593, k593, n593⟩, -, X593, ⟨Lc593, hQ593, l593, y593, z593⟩, st593⟩ := X588.virtualBack hx (y := (⟨"java/lang/String", "charAt", "(I)C"⟩ : MethodName)) (z := (⟨"java/lang/String", "charAt", "(I)C"⟩ : MethodName)) ho567 (mvT hZ567 (own_w hw 97 rfl)) (mvT hZ567 (own_w hw 98 rfl)) (notFace_of_selects (args := #[]) (mvT hZ567 (own_w hw 100 rfl))) (mvT hZ567 (own_w hw 100 rfl)) (mvT hZ567 (own_w hw 99 rfl)) (by decide) (StrChars.Road.chN (W := 0) hZ567 (own_wordsChN hw) (kI := 4) (own_w hw 11 rfl) Ob567_0 Ob567_2 Ob567_1 Ob567b_0 (own_hcdG (cs := [49]) (by decide)) (own_up [49] (by decide)) Sf568 P5 Sf569 rG3 (Nat.le_of_ble_eq_true rfl) (i := 0) (by decide) (j := (0 : Int32)) rfl (by decide) (by decide)) q593a q593c (g := (mkF m 254 #[vI p0, vI p1, vI p2, vI p3, vI p4, vI v273, vI v279, vI v285, vI v291, vI v294, vI v297, vI v300, vI v303, vR b306, vR b343, vR b353, vR s_EMPTY, vR s_EMPTY, vR b484, vR b497, vR b567] [(.int 0), (.ref b567)])) rfl (by rw [hml]; rfl) (Steps.refl _) (argsL := [(.int 0)]) (rest := []) (lenOf pd_14 rfl) rfl (by show 2 * 0 + _ ≤ _; exact Nat.le_of_eq rfl) (hb hby at_254) (fun _ _ => ⟨rfl, e588, (by decide : 27 + 0 ≤ _), (by decide : 273 + 0 ≤ _)⟩)
     dsimp only [Pt.U, Pt.locs, Pt.cells, Pt.slots] at X593 l593 y593 z593 st593 hQ593
     subst l593 y593 z593
     obtain ⟨rfl, rfl, e593⟩ := hQ593
     try rw [List.append_nil] at X593
     have pre594 : own_P p e below T593 (mkF m 257 #[vI p0, vI p1, vI p2, vI p3, vI p4, vI v273, vI v279, vI v285, vI v291, vI v294, vI v297, vI v300, vI v303, vR b306, vR b343, vR b353, vR s_EMPTY, vR s_EMPTY, vR b484, vR b497, vR b567] [(.int (([49] : List Int32).getD 0 0))]) s₁ (own_E m p0 p1 p2 p3 p4) := fun t k => pre592 t (st593.trans k)
     have pre595 : own_P p e below T593 (mkF m 259 #[vI p0, vI p1, vI p2, vI p3, vI p4, vI v273, vI v279, vI v285, vI v291, vI v294, vI v297, vI v300, vI v303, vR b306, vR b343, vR b353, vR s_EMPTY, vR s_EMPTY, vR b484, vR b497, vR b567] [(.int 49), (.int (([49] : List Int32).getD 0 0))]) s₁ (own_E m p0 p1 p2 p3 p4) := by
      intro t k
      refine pre594 t ?_
      refine XS.bipush X593.here hx rfl (hb hby at_257) ?_
      exact k
     have hk596 : (([49] : List Int32).getD 0 0) = (49 : Int32) := (by decide)
     obtain ⟨fs, hr, hrun, hended, hRW⟩ := X593.leaveW (s := s) (vm₁ := T567.vm) hS567 (by rw [e593]; first | exact hk567 | exact Nat.le_refl _) (v := some (.int 1)) (fun h => by rw [Bd.returns] at h; cases h)
     refine ⟨_, _, pre595 _ ?_, hrun, hended, _, _, rfl, ?_, hRW.1, hRW.2.1, hRW.2.2.1, hRW.2.2.2.mono (by decide) (by decide)⟩
     ·
      refine XS.icmpNo X593.here hx rfl (hb hby at_259) rfl (teq hk596).2 ?_
      refine XS.iconst X593.here hx rfl (hb hby at_262) ?_
      refine XS.goto X593.here hx rfl (pc0 := 263) (pc' := 267) rfl (hb hby at_263) (by decide) (by decide) ?_
      exact retN X593 hx (t := .boolean) Bd.returns (by simp) (hb hby at_267) hr
     ·
      show Q0 Z p0 p1 p2 p3 p4 gc1 gf3 s_EMPTY h0 n0 _ T593.heap _
      rw [e593]
      exact ⟨rfl, N567⟩
   ·
    have pre597 : ∀ t, Steps p.tables e below (T370.setTop (mkF m 162 #[vI p0, vI p1, vI p2, vI p3, vI p4, vI v273, vI v279, vI v285, vI v291, vI v294, vI v297, vI v300, vI v303, vR b306, vR b343, vR b353, vR s_EMPTY, .unset, .unset, .unset, .unset] [(.ref b353)])) t → Steps p.tables e below (s₁.setTop (own_E m p0 p1 p2 p3 p4)) t := by
     intro t k
     refine pre372 t ?_
     refine XS.ifNo X370.here hx rfl (hb hby at_157) rfl ((if0 _ _).trans (feq hc157_373).1) ?_
     refine XS.aload X370.here hx rfl (hb hby at_160) rfl rfl ?_
     exact k
    obtain ⟨_, _, ⟨T598, L598, k598, n598⟩, -, X598, ⟨Lc598, hQ598, l598, y598, z598⟩, st598⟩ := Jvm.LawKit.callS X370 hx (y := (⟨"java/util/Optional", "of", "(Ljava/lang/Object;)Ljava/util/Optional;"⟩ : MethodName)) hown (mvT hZ (own_w hw 135 rfl)) (mvT hZ (own_w hw 136 rfl)) (mvT hZ (own_w hw 29 rfl)) (mvT hZ (own_w hw 137 rfl)) (by decide) (backOf (W := 0) (rm24 l Z ar0 hw [] b353 h353 n0 Z353) hZ (own_w hw 137 rfl) (own_w hw 29 rfl) (by decide) (by decide)) (g := (mkF m 162 #[vI p0, vI p1, vI p2, vI p3, vI p4, vI v273, vI v279, vI v285, vI v291, vI v294, vI v297, vI v300, vI v303, vR b306, vR b343, vR b353, vR s_EMPTY, .unset, .unset, .unset, .unset] [(.ref b353)])) rfl (by rw [hml]; rfl) (argsL := [(.ref b353)]) (rest := []) (lenOf pd_10 rfl) rfl (by show 2 * 0 + _ ≤ _; exact Nat.le_of_eq rfl) (hb hby at_162) (fun _ _ => ⟨rfl, e370, (by decide : 5 + 1 ≤ _), (by decide : 13 + 1 ≤ _)⟩)
    dsimp only [Pt.U, Pt.locs, Pt.cells, Pt.slots] at X598 l598 y598 z598 st598 hQ598
    subst l598 y598 z598
    obtain ⟨h598, e598⟩ : ∃ h, T598.heap = h := ⟨_, rfl⟩
    rw [e598] at hQ598
    obtain ⟨b598, rfl, N598q, K598q, y_b598, Ob598_0, Ob598_1⟩ := hQ598
    have N598 := Fr.app N370 N598q
    have ne_s_EMPTY_b598 : s_EMPTY ≠ b598 := Nat.ne_of_lt (Nat.lt_of_lt_of_le (Ef357).lt y_b598)
    have ne_b343_b598 : b343 ≠ b598 := Nat.ne_of_lt (Nat.lt_of_lt_of_le (Ef361).lt y_b598)
    have ne_b343b_b598 : b343b ≠ b598 := Nat.ne_of_lt (Nat.lt_of_lt_of_le (Ef364).lt y_b598)
    have g_b598 : n0 ≤ b598 := Nat.le_trans Z353 y_b598
    have sz_b598 : h0.size ≤ b598 := Nat.le_trans K353.1 y_b598
    have Z598 : n0 ≤ h598.size := Nat.le_trans Z353 K598q.1
    have hk598 := Nat.le_trans hk353 K598q.1
    have K598 : Keep h0 h598 [] := K353.trans K598q (fun x hx => absurd hx List.not_mem_nil)
    have CR598 := CR353.trans (CHr.keep K598q sf0 CR353.1)
    have Sf599 : Sta Z h598 "java/lang/String" "COMPACT_STRINGS" "Z" (.int gc1) := own_sta_keep0 Sf354 K598q
    have Sf600 : Sta Z h598 "jdk/internal/util/Preconditions" "SIOOBE_FORMATTER" "Ljava/util/function/BiFunction;" gf3 := own_sta_keep0 Sf355 K598q
    have Sf601 : Sta Z h598 "java/util/Optional" "EMPTY" "Ljava/util/Optional;" (.ref s_EMPTY) := own_sta_keep0 Sf356 K598q
    have Ef602 : Exa Z h598 s_EMPTY "java/util/Optional" := (Ef357).keep K598q
    have Ff603 : Fld Z h598 s_EMPTY "java/util/Optional" "value" "Ljava/lang/Object;" .null := (Ff358).keep K598q List.not_mem_nil
    have Ef604 : Exa Z h598 b343 "java/lang/String" := (Ef361).keep K598q
    have Ff605 : Fld Z h598 b343 "java/lang/String" "value" "[B" (.ref b343b) := (Ff362).keep K598q List.not_mem_nil
    have Ff606 : Fld Z h598 b343 "java/lang/String" "coder" "B" (.int 0) := (Ff363).keep K598q List.not_mem_nil
    have Ef607 : Exa Z h598 b343b "[B" := (Ef364).keep K598q
    have Vf608 : Arv Z h598 b343b kb343b .byte (1 : Int32) ((([v294] : List Int32).map (fun c => c.toInt8.toInt32)).map Value.int) (.int 0) := (Vf365).keep K598q List.not_mem_nil
    have pre609 : own_P p e below T598 (mkF m 165 #[vI p0, vI p1, vI p2, vI p3, vI p4, vI v273, vI v279, vI v285, vI v291, vI v294, vI v297, vI v300, vI v303, vR b306, vR b343, vR b353, vR s_EMPTY, .unset, .unset, .unset, .unset] [(.ref b598)]) s₁ (own_E m p0 p1 p2 p3 p4) := fun t k => pre597 t (st598 t k)
    have pre610 : own_P p e below T598 (mkF m 175 #[vI p0, vI p1, vI p2, vI p3, vI p4, vI v273, vI v279, vI v285, vI v291, vI v294, vI v297, vI v300, vI v303, vR b306, vR b343, vR b353, vR s_EMPTY, vR b598, .unset, .unset, .unset] [(.int v291)]) s₁ (own_E m p0 p1 p2 p3 p4) := by
     intro t k
     refine pre609 t ?_
     refine XS.goto X598.here hx rfl (pc0 := 165) (pc' := 171) rfl (hb hby at_165) (by decide) (by decide) ?_
     refine XS.astore X598.here hx rfl (hb hby at_171) rfl rfl (l' := #[vI p0, vI p1, vI p2, vI p3, vI p4, vI v273, vI v279, vI v285, vI v291, vI v294, vI v297, vI v300, vI v303, vR b306, vR b343, vR b353, vR s_EMPTY, vR b598, .unset, .unset, .unset]) rfl ?_
     refine XS.iload X598.here hx rfl (hb hby at_173) rfl ?_
     exact k
    by_cases hc175_611 : v291 = (0 : Int32)
    ·
     have pre612 : ∀ t, Steps p.tables e below (T598.setTop (mkF m 186 #[vI p0, vI p1, vI p2, vI p3, vI p4, vI v273, vI v279, vI v285, vI v291, vI v294, vI v297, vI v300, vI v303, vR b306, vR b343, vR b353, vR s_EMPTY, vR b598, .unset, .unset, .unset] [])) t → Steps p.tables e below (s₁.setTop (own_E m p0 p1 p2 p3 p4)) t := by
      intro t k
      refine pre610 t ?_
      refine XS.ifYes X598.here hx rfl (pc0 := 175) (pc' := 186) rfl (hb hby at_175) rfl ((if0 _ _).trans (teq hc175_611).1) (by decide) (by decide) ?_
      exact k
     obtain ⟨_, _, ⟨T613, L613, k613, n613⟩, -, X613, ⟨Lc613, hQ613, l613, y613, z613⟩, st613⟩ := Jvm.LawKit.callS X598 hx (y := (⟨"java/util/Optional", "empty", "()Ljava/util/Optional;"⟩ : MethodName)) hown (mvT hZ (own_w hw 27 rfl)) (mvT hZ (own_w hw 28 rfl)) (mvT hZ (own_w hw 29 rfl)) (mvT hZ (own_w hw 30 rfl)) (by decide) (backOf (W := 0) (rm6 l Z ar0 hw [] s_EMPTY h598 n0 Z598 Sf601) hZ (own_w hw 30 rfl) (own_w hw 29 rfl) (by decide) (by decide)) (g := (mkF m 186 #[vI p0, vI p1, vI p2, vI p3, vI p4, vI v273, vI v279, vI v285, vI v291, vI v294, vI v297, vI v300, vI v303, vR b306, vR b343, vR b353, vR s_EMPTY, vR b598, .unset, .unset, .unset] [])) rfl (by rw [hml]; rfl) (argsL := []) (rest := []) (lenOf pd_9 rfl) rfl (by show 2 * 0 + _ ≤ _; exact Nat.le_of_eq rfl) (hb hby at_186) (fun _ _ => ⟨rfl, e598, (by decide : 6 + 0 ≤ _), (by decide : 14 + 0 ≤ _)⟩)
     dsimp only [Pt.U, Pt.locs, Pt.cells, Pt.slots] at X613 l613 y613 z613 st613 hQ613
     subst l613 y613 z613
     obtain ⟨rfl, N613q, e613⟩ := hQ613
     have N613 := Fr.app N598 N613q
     have pre614 : own_P p e below T613 (mkF m 189 #[vI p0, vI p1, vI p2, vI p3, vI p4, vI v273, vI v279, vI v285, vI v291, vI v294, vI v297, vI v300, vI v303, vR b306, vR b343, vR b353, vR s_EMPTY, vR b598, .unset, .unset, .unset] [(.ref s_EMPTY)]) s₁ (own_E m p0 p1 p2 p3 p4) := fun t k => pre612 t (st613 t k)
     have pre615 : own_P p e below T613 (mkF m 191 #[vI p0, vI p1, vI p2, vI p3, vI p4, vI v273, vI v279, vI v285, vI v291, vI v294, vI v297, vI v300, vI v303, vR b306, vR b343, vR b353, vR s_EMPTY, vR b598, vR s_EMPTY, .unset, .unset] []) s₁ (own_E m p0 p1 p2 p3 p4) := by
      intro t k
      refine pre614 t ?_
      refine XS.astore X613.here hx rfl (hb hby at_189) rfl rfl (l' := #[vI p0, vI p1, vI p2, vI p3, vI p4, vI v273, vI v279, vI v285, vI v291, vI v294, vI v297, vI v300, vI v303, vR b306, vR b343, vR b353, vR s_EMPTY, vR b598, vR s_EMPTY, .unset, .unset]) rfl ?_
      exact k
     obtain ⟨T616, h616, X616, e616, E616, A616, D616, -, st616⟩ := newO X613 hx hZ hown (own_w hw 32 rfl) (own_w hw 33 rfl) (own_w hw 34 rfl) e613 (g := (mkF m 191 #[vI p0, vI p1, vI p2, vI p3, vI p4, vI v273, vI v279, vI v285, vI v291, vI v294, vI v297, vI v300, vI v303, vR b306, vR b343, vR b353, vR s_EMPTY, vR b598, vR s_EMPTY, .unset, .unset] [])) rfl (hb hby at_191) (by decide) (by decide)
     obtain ⟨b616, g616⟩ : ∃ z, z = h598.size := ⟨_, rfl⟩
     rw [← g616] at A616 D616 st616
     have ne_s_EMPTY_b616 : s_EMPTY ≠ b616 := Nat.ne_of_lt (Nat.lt_of_lt_of_le (Ef602).lt (Nat.le_of_eq g616.symm))
     have ne_b343_b616 : b343 ≠ b616 := Nat.ne_of_lt (Nat.lt_of_lt_of_le (Ef604).lt (Nat.le_of_eq g616.symm))
     have ne_b343b_b616 : b343b ≠ b616 := Nat.ne_of_lt (Nat.lt_of_lt_of_le (Ef607).lt (Nat.le_of_eq g616.symm))
     have g_b616 : n0 ≤ b616 := Nat.le_trans Z598 (Nat.le_of_eq g616.symm)
     have sz_b616 : h0.size ≤ b616 := Nat.le_trans K598.1 (Nat.le_of_eq g616.symm)
     have Z616 : n0 ≤ h616.size := Nat.le_trans Z598 E616.1
     have K616 : Keep h0 h616 [] := K598.ext E616
     have hk616 := Nat.le_trans hk598 E616.1
     have CR616 := CR598.trans (CHr.ext E616 CR598.1)
     have Sf617 : Sta Z h616 "java/lang/String" "COMPACT_STRINGS" "Z" (.int gc1) := (Sf599).ext E616
     have Sf618 : Sta Z h616 "jdk/internal/util/Preconditions" "SIOOBE_FORMATTER" "Ljava/util/function/BiFunction;" gf3 := (Sf600).ext E616
     have Sf619 : Sta Z h616 "java/util/Optional" "EMPTY" "Ljava/util/Optional;" (.ref s_EMPTY) := (Sf601).ext E616
     have Ef620 : Exa Z h616 s_EMPTY "java/util/Optional" := (Ef602).ext E616
     have Ff621 : Fld Z h616 s_EMPTY "java/util/Optional" "value" "Ljava/lang/Object;" .null := (Ff603).ext E616
     have Ef622 : Exa Z h616 b343 "java/lang/String" := (Ef604).ext E616
     have Ff623 : Fld Z h616 b343 "java/lang/String" "value" "[B" (.ref b343b) := (Ff605).ext E616
     have Ff624 : Fld Z h616 b343 "java/lang/String" "coder" "B" (.int 0) := (Ff606).ext E616
     have Ef625 : Exa Z h616 b343b "[B" := (Ef607).ext E616
     have Vf626 : Arv Z h616 b343b kb343b .byte (1 : Int32) ((([v294] : List Int32).map (fun c => c.toInt8.toInt32)).map Value.int) (.int 0) := (Vf608).ext E616
     have Ftext_b616 : Fld Z h616 b616 own_GU "text" "Ljava/lang/String;" .null := D616 (Or.inr (own_w hw 60 rfl)) (ty := (.object "java/lang/String")) (by decide)
     have Fhost_b616 : Fld Z h616 b616 own_GU "host" "Ljava/lang/String;" .null := D616 (Or.inr (own_w hw 62 rfl)) (ty := (.object "java/lang/String")) (by decide)
     have Fport_b616 : Fld Z h616 b616 own_GU "port" "Ljava/util/Optional;" .null := D616 (Or.inr (own_w hw 64 rfl)) (ty := (.object "java/util/Optional")) (by decide)
     have Ftype_b616 : Fld Z h616 b616 own_GU "type" "Ljava/util/Optional;" .null := D616 (Or.inr (own_w hw 66 rfl)) (ty := (.object "java/util/Optional")) (by decide)
     have Fselector_b616 : Fld Z h616 b616 own_GU "selector" "Ljava/lang/String;" .null := D616 (Or.inr (own_w hw 68 rfl)) (ty := (.object "java/lang/String")) (by decide)
     have Fsearch_b616 : Fld Z h616 b616 own_GU "search" "Ljava/util/Optional;" .null := D616 (Or.inr (own_w hw 70 rfl)) (ty := (.object "java/util/Optional")) (by decide)
     have FgopherPlus_b616 : Fld Z h616 b616 own_GU "gopherPlus" "Ljava/util/Optional;" .null := D616 (Or.inr (own_w hw 72 rfl)) (ty := (.object "java/util/Optional")) (by decide)
     have pre627 : own_P p e below T616 (mkF m 194 #[vI p0, vI p1, vI p2, vI p3, vI p4, vI v273, vI v279, vI v285, vI v291, vI v294, vI v297, vI v300, vI v303, vR b306, vR b343, vR b353, vR s_EMPTY, vR b598, vR s_EMPTY, .unset, .unset] [(.ref b616)]) s₁ (own_E m p0 p1 p2 p3 p4) := fun t k => pre615 t (st616 t k)
     have pre628 : own_P p e below T616 (mkF m 195 #[vI p0, vI p1, vI p2, vI p3, vI p4, vI v273, vI v279, vI v285, vI v291, vI v294, vI v297, vI v300, vI v303, vR b306, vR b343, vR b353, vR s_EMPTY, vR b598, vR s_EMPTY, .unset, .unset] [(.ref b616), (.ref b616)]) s₁ (own_E m p0 p1 p2 p3 p4) := by
      intro t k
      refine pre627 t ?_
      refine XS.dup X616.here hx rfl (hb hby at_194) rfl rfl ?_
      exact k
     obtain ⟨a629, T629, h629, k629, X629, e629, E629, hS629, hk629, hZ629, ho629, hC629, -, st629⟩ := ldcOH (s := s) (vm0 := s.vm) X616 hx hZ hown (own_w hw 35 rfl) (own_strW hw) e616 hS0 hk616 hEL CR616.1 (g := (mkF m 195 #[vI p0, vI p1, vI p2, vI p3, vI p4, vI v273, vI v279, vI v285, vI v291, vI v294, vI v297, vI v300, vI v303, vR b306, vR b343, vR b353, vR s_EMPTY, vR b598, vR s_EMPTY, .unset, .unset] [(.ref b616), (.ref b616)])) rfl (hb hby at_195) (n := 44) (by decide) (by decide) (by decide) (by decide)
     have CR629 := CR616.trans hC629
     have Z629 : n0 ≤ h629.size := Nat.le_trans Z616 E629.1
     have K629 : Keep h0 h629 [] := K616.ext E629
     have Sf630 : Sta Z h629 "java/lang/String" "COMPACT_STRINGS" "Z" (.int gc1) := (Sf617).ext E629
     have Sf631 : Sta Z h629 "jdk/internal/util/Preconditions" "SIOOBE_FORMATTER" "Ljava/util/function/BiFunction;" gf3 := (Sf618).ext E629
     have Sf632 : Sta Z h629 "java/util/Optional" "EMPTY" "Ljava/util/Optional;" (.ref s_EMPTY) := (Sf619).ext E629
     have Ef633 : Exa Z h629 s_EMPTY "java/util/Optional" := (Ef620).ext E629
     have Ff634 : Fld Z h629 s_EMPTY "java/util/Optional" "value" "Ljava/lang/Object;" .null := (Ff621).ext E629
     have Ef635 : Exa Z h629 b343 "java/lang/String" := (Ef622).ext E629
     have Ff636 : Fld Z h629 b343 "java/lang/String" "value" "[B" (.ref b343b) := (Ff623).ext E629
     have Ff637 : Fld Z h629 b343 "java/lang/String" "coder" "B" (.int 0) := (Ff624).ext E629
     have Ef638 : Exa Z h629 b343b "[B" := (Ef625).ext E629
     have Vf639 : Arv Z h629 b343b kb343b .byte (1 : Int32) ((([v294] : List Int32).map (fun c => c.toInt8.toInt32)).map Value.int) (.int 0) := (Vf626).ext E629
     have Ef640 : Exa Z h629 b616 own_GU := (A616).ext E629
     have Ff641 : Fld Z h629 b616 own_GU "text" "Ljava/lang/String;" .null := (Ftext_b616).ext E629
     have Ff642 : Fld Z h629 b616 own_GU "host" "Ljava/lang/String;" .null := (Fhost_b616).ext E629
     have Ff643 : Fld Z h629 b616 own_GU "port" "Ljava/util/Optional;" .null := (Fport_b616).ext E629
     have Ff644 : Fld Z h629 b616 own_GU "type" "Ljava/util/Optional;" .null := (Ftype_b616).ext E629
     have Ff645 : Fld Z h629 b616 own_GU "selector" "Ljava/lang/String;" .null := (Fselector_b616).ext E629
     have Ff646 : Fld Z h629 b616 own_GU "search" "Ljava/util/Optional;" .null := (Fsearch_b616).ext E629
     have Ff647 : Fld Z h629 b616 own_GU "gopherPlus" "Ljava/util/Optional;" .null := (FgopherPlus_b616).ext E629
     have pre648 : own_P p e below T629 (mkF m 197 #[vI p0, vI p1, vI p2, vI p3, vI p4, vI v273, vI v279, vI v285, vI v291, vI v294, vI v297, vI v300, vI v303, vR b306, vR b343, vR b353, vR s_EMPTY, vR b598, vR s_EMPTY, .unset, .unset] [(.ref a629), (.ref b616), (.ref b616)]) s₁ (own_E m p0 p1 p2 p3 p4) := fun t k => pre628 t (st629 t k)
     obtain ⟨a649, T649, h649, k649, X649, e649, E649, hS649, hk649, hZ649, ho649, hC649, -, st649⟩ := ldcOH (s := s) (vm0 := T629.vm) X629 hx hZ629 ho629 (own_w hw 38 rfl) (own_strW hw) e629 hS629 hk629 hEL CR629.1 (g := (mkF m 197 #[vI p0, vI p1, vI p2, vI p3, vI p4, vI v273, vI v279, vI v285, vI v291, vI v294, vI v297, vI v300, vI v303, vR b306, vR b343, vR b353, vR s_EMPTY, vR b598, vR s_EMPTY, .unset, .unset] [(.ref a629), (.ref b616), (.ref b616)])) rfl (hb hby at_197) (n := 4) (by decide) (by decide) (by decide) (by decide)
     have CR649 := CR629.trans hC649
     have Z649 : n0 ≤ h649.size := Nat.le_trans Z629 E649.1
     have K649 : Keep h0 h649 [] := K629.ext E649
     have Sf650 : Sta Z h649 "java/lang/String" "COMPACT_STRINGS" "Z" (.int gc1) := (Sf630).ext E649
     have Sf651 : Sta Z h649 "jdk/internal/util/Preconditions" "SIOOBE_FORMATTER" "Ljava/util/function/BiFunction;" gf3 := (Sf631).ext E649
     have Sf652 : Sta Z h649 "java/util/Optional" "EMPTY" "Ljava/util/Optional;" (.ref s_EMPTY) := (Sf632).ext E649
     have Ef653 : Exa Z h649 s_EMPTY "java/util/Optional" := (Ef633).ext E649
     have Ff654 : Fld Z h649 s_EMPTY "java/util/Optional" "value" "Ljava/lang/Object;" .null := (Ff634).ext E649
     have Ef655 : Exa Z h649 b343 "java/lang/String" := (Ef635).ext E649
     have Ff656 : Fld Z h649 b343 "java/lang/String" "value" "[B" (.ref b343b) := (Ff636).ext E649
     have Ff657 : Fld Z h649 b343 "java/lang/String" "coder" "B" (.int 0) := (Ff637).ext E649
     have Ef658 : Exa Z h649 b343b "[B" := (Ef638).ext E649
     have Vf659 : Arv Z h649 b343b kb343b .byte (1 : Int32) ((([v294] : List Int32).map (fun c => c.toInt8.toInt32)).map Value.int) (.int 0) := (Vf639).ext E649
     have Ef660 : Exa Z h649 b616 own_GU := (Ef640).ext E649
     have Ff661 : Fld Z h649 b616 own_GU "text" "Ljava/lang/String;" .null := (Ff641).ext E649
     have Ff662 : Fld Z h649 b616 own_GU "host" "Ljava/lang/String;" .null := (Ff642).ext E649
     have Ff663 : Fld Z h649 b616 own_GU "port" "Ljava/util/Optional;" .null := (Ff643).ext E649
     have Ff664 : Fld Z h649 b616 own_GU "type" "Ljava/util/Optional;" .null := (Ff644).ext E649
     have Ff665 : Fld Z h649 b616 own_GU "selector" "Ljava/lang/String;" .null := (Ff645).ext E649
     have Ff666 : Fld Z h649 b616 own_GU "search" "Ljava/util/Optional;" .null := (Ff646).ext E649
     have Ff667 : Fld Z h649 b616 own_GU "gopherPlus" "Ljava/util/Optional;" .null := (Ff647).ext E649
     have pre668 : own_P p e below T649 (mkF m 199 #[vI p0, vI p1, vI p2, vI p3, vI p4, vI v273, vI v279, vI v285, vI v291, vI v294, vI v297, vI v300, vI v303, vR b306, vR b343, vR b353, vR s_EMPTY, vR b598, vR s_EMPTY, .unset, .unset] [(.ref a649), (.ref a629), (.ref b616), (.ref b616)]) s₁ (own_E m p0 p1 p2 p3 p4) := fun t k => pre648 t (st649 t k)
     have pre669 : own_P p e below T649 (mkF m 207 #[vI p0, vI p1, vI p2, vI p3, vI p4, vI v273, vI v279, vI v285, vI v291, vI v294, vI v297, vI v300, vI v303, vR b306, vR b343, vR b353, vR s_EMPTY, vR b598, vR s_EMPTY, .unset, .unset] [(.ref b598), (.ref b353), (.ref s_EMPTY), (.ref s_EMPTY), (.ref a649), (.ref a629), (.ref b616), (.ref b616)]) s₁ (own_E m p0 p1 p2 p3 p4) := by
      intro t k
      refine pre668 t ?_
      refine XS.aload X649.here hx rfl (hb hby at_199) rfl rfl ?_
      refine XS.aload X649.here hx rfl (hb hby at_201) rfl rfl ?_
      refine XS.aload X649.here hx rfl (hb hby at_203) rfl rfl ?_
      refine XS.aload X649.here hx rfl (hb hby at_205) rfl rfl ?_
      exact k
     obtain ⟨_, _, ⟨T670, L670, k670, n670⟩, -, X670, ⟨Lc670, hQ670, l670, y670, z670⟩, st670⟩ := Jvm.LawKit.callS X649 hx (y := (⟨"java/util/Optional", "empty", "()Ljava/util/Optional;"⟩ : MethodName)) ho649 (mvT hZ649 (own_w hw 27 rfl)) (mvT hZ649 (own_w hw 28 rfl)) (mvT hZ649 (own_w hw 29 rfl)) (mvT hZ649 (own_w hw 30 rfl)) (by decide) (backOf (W := 8) (rm6 l Z ar0 hw [] s_EMPTY h649 n0 Z649 Sf652) hZ649 (own_w hw 30 rfl) (own_w hw 29 rfl) (by decide) (by decide)) (g := (mkF m 207 #[vI p0, vI p1, vI p2, vI p3, vI p4, vI v273, vI v279, vI v285, vI v291, vI v294, vI v297, vI v300, vI v303, vR b306, vR b343, vR b353, vR s_EMPTY, vR b598, vR s_EMPTY, .unset, .unset] [(.ref b598), (.ref b353), (.ref s_EMPTY), (.ref s_EMPTY), (.ref a649), (.ref a629), (.ref b616), (.ref b616)])) rfl (by rw [hml]; rfl) (argsL := []) (rest := [(.ref b598), (.ref b353), (.ref s_EMPTY), (.ref s_EMPTY), (.ref a649), (.ref a629), (.ref b616), (.ref b616)]) (lenOf pd_9 rfl) rfl (by show 2 * 0 + _ ≤ _; exact Nat.le_of_eq rfl) (hb hby at_207) (fun _ _ => ⟨rfl, e649, (by decide : 11 + 0 ≤ _), (by decide : 77 + 0 ≤ _)⟩)
     dsimp only [Pt.U, Pt.locs, Pt.cells, Pt.slots] at X670 l670 y670 z670 st670 hQ670
     subst l670 y670 z670
     obtain ⟨rfl, N670q, e670⟩ := hQ670
     have N670 := Fr.app N613 N670q
     have pre671 : own_P p e below T670 (mkF m 210 #[vI p0, vI p1, vI p2, vI p3, vI p4, vI v273, vI v279, vI v285, vI v291, vI v294, vI v297, vI v300, vI v303, vR b306, vR b343, vR b353, vR s_EMPTY, vR b598, vR s_EMPTY, .unset, .unset] [(.ref s_EMPTY), (.ref b598), (.ref b353), (.ref s_EMPTY), (.ref s_EMPTY), (.ref a649), (.ref a629), (.ref b616), (.ref b616)]) s₁ (own_E m p0 p1 p2 p3 p4) := fun t k => pre669 t (st670 t k)
     obtain ⟨_, _, ⟨T672, L672, k672, n672⟩, -, X672r, hS672r, hg672r, ⟨Lc672, hQ672, l672, y672, z672, hC672⟩, st672⟩ := X670.specialBackS hx (y := (⟨own_GU, "<init>", "(Ljava/lang/String;Ljava/lang/String;Ljava/util/Optional;Ljava/util/Optional;Ljava/lang/String;Ljava/util/Optional;Ljava/util/Optional;)V"⟩ : MethodName)) rfl ho649 (mvT hZ649 (own_w hw 39 rfl)) (mvT hZ649 (own_w hw 40 rfl)) (mvT hZ649 (own_w hw 41 rfl)) (by decide) (backOfSH (W := 1) (rm7 l Z ar0 hw [] b616 a629 a649 s_EMPTY s_EMPTY b353 b598 s_EMPTY .null .null .null .null .null .null .null h649 n0 Z649 Ef660 Ff661 Ff662 Ff663 Ff664 Ff665 Ff666 Ff667 g_b616) hZ649 (own_w hw 41 rfl) (own_w hw 34 rfl) (by decide) (by decide) hEL CR649.1) (g := (mkF m 210 #[vI p0, vI p1, vI p2, vI p3, vI p4, vI v273, vI v279, vI v285, vI v291, vI v294, vI v297, vI v300, vI v303, vR b306, vR b343, vR b353, vR s_EMPTY, vR b598, vR s_EMPTY, .unset, .unset] [(.ref s_EMPTY), (.ref b598), (.ref b353), (.ref s_EMPTY), (.ref s_EMPTY), (.ref a649), (.ref a629), (.ref b616), (.ref b616)])) rfl (by rw [hml]; rfl) (Steps.refl _) (a := b616) (argsL := [(.ref a629), (.ref a649), (.ref s_EMPTY), (.ref s_EMPTY), (.ref b353), (.ref b598), (.ref s_EMPTY)]) (rest := [(.ref b616)]) (lenOf pd_11 rfl) rfl (by show 2 * 0 + _ ≤ _; exact Nat.le_of_eq rfl) (hb hby at_210) (fun _ _ => ⟨rfl, e670, (by decide : 11 + 14 ≤ _), (by decide : 77 + 188 ≤ _)⟩)
     dsimp only [Pt.U, Pt.locs, Pt.cells, Pt.slots] at X672r hS672r hg672r l672 y672 z672 st672 hQ672 hC672
     subst l672 y672 z672
     obtain ⟨X672, hS672, hZ672, ho672⟩ := rebS (s := s) (vm0 := T649.vm) (n1 := T670.heap.size) hS649 (by rw [e670]; first | exact hk649 | exact Nat.le_refl _) X672r hS672r hg672r hZ649 ho649
     obtain ⟨h672, e672⟩ : ∃ h, T672.heap = h := ⟨_, rfl⟩
     rw [e672] at hQ672
     obtain ⟨rfl, N672q, K672q, Q672_0, Q672_1, Q672_2, Q672_3, Q672_4, Q672_5, Q672_6, Q672_7⟩ := hQ672
     have N672 := Fr.app N670 N672q
     have Z672 : n0 ≤ h672.size := Nat.le_trans Z649 K672q.1
     have K672 : Keep h0 h672 [] := K649.trans K672q (fun x hx => by cases List.mem_singleton.mp hx; exact Or.inr sz_b616)
     have Sf673 : Sta Z h672 "java/lang/String" "COMPACT_STRINGS" "Z" (.int gc1) := own_sta_keep Sf650 K672q (own_ns1 (own_ns_exa Ef660))
     have Sf674 : Sta Z h672 "jdk/internal/util/Preconditions" "SIOOBE_FORMATTER" "Ljava/util/function/BiFunction;" gf3 := own_sta_keep Sf651 K672q (own_ns1 (own_ns_exa Ef660))
     have Sf675 : Sta Z h672 "java/util/Optional" "EMPTY" "Ljava/util/Optional;" (.ref s_EMPTY) := own_sta_keep Sf652 K672q (own_ns1 (own_ns_exa Ef660))
     have Ef676 : Exa Z h672 s_EMPTY "java/util/Optional" := (Ef653).keep K672q
     have Ff677 : Fld Z h672 s_EMPTY "java/util/Optional" "value" "Ljava/lang/Object;" .null := (Ff654).keep K672q (fun q => absurd (List.mem_singleton.mp q) ne_s_EMPTY_b616)
     have Ef678 : Exa Z h672 b343 "java/lang/String" := (Ef655).keep K672q
     have Ff679 : Fld Z h672 b343 "java/lang/String" "value" "[B" (.ref b343b) := (Ff656).keep K672q (fun q => absurd (List.mem_singleton.mp q) ne_b343_b616)
     have Ff680 : Fld Z h672 b343 "java/lang/String" "coder" "B" (.int 0) := (Ff657).keep K672q (fun q => absurd (List.mem_singleton.mp q) ne_b343_b616)
     have Ef681 : Exa Z h672 b343b "[B" := (Ef658).keep K672q
     have Vf682 : Arv Z h672 b343b kb343b .byte (1 : Int32) ((([v294] : List Int32).map (fun c => c.toInt8.toInt32)).map Value.int) (.int 0) := (Vf659).keep K672q (fun q => absurd (List.mem_singleton.mp q) ne_b343b_b616)
     have Ef683 : Exa Z h672 b616 own_GU := (Ef660).keep K672q
     rw [e672] at hC672
     have CR672 := CR649.trans hC672
     have hk672 : T672.heap.size ≤ h672.size := by rw [e672]; exact Nat.le_refl _
     have pre684 : own_P p e below T672 (mkF m 213 #[vI p0, vI p1, vI p2, vI p3, vI p4, vI v273, vI v279, vI v285, vI v291, vI v294, vI v297, vI v300, vI v303, vR b306, vR b343, vR b353, vR s_EMPTY, vR b598, vR s_EMPTY, .unset, .unset] [(.ref b616)]) s₁ (own_E m p0 p1 p2 p3 p4) := fun t k => pre671 t (st672.trans k)
     have pre685 : own_P p e below T672 (mkF m 217 #[vI p0, vI p1, vI p2, vI p3, vI p4, vI v273, vI v279, vI v285, vI v291, vI v294, vI v297, vI v300, vI v303, vR b306, vR b343, vR b353, vR s_EMPTY, vR b598, vR s_EMPTY, vR b616, .unset] [(.ref b616)]) s₁ (own_E m p0 p1 p2 p3 p4) := by
      intro t k
      refine pre684 t ?_
      refine XS.astore X672.here hx rfl (hb hby at_213) rfl rfl (l' := #[vI p0, vI p1, vI p2, vI p3, vI p4, vI v273, vI v279, vI v285, vI v291, vI v294, vI v297, vI v300, vI v303, vR b306, vR b343, vR b353, vR s_EMPTY, vR b598, vR s_EMPTY, vR b616, .unset]) rfl ?_
      refine XS.aload X672.here hx rfl (hb hby at_215) rfl rfl ?_
      exact k
     obtain ⟨cq686, kq686, q686a, q686b, q686c⟩ := isOf hZ672 e672 Q672_0
     obtain ⟨_, _, ⟨T686, L686, k686, n686⟩, -, X686r, hS686r, hg686r, ⟨Lc686, hQ686, l686, y686, z686, hC686⟩, st686⟩ := X672.virtualBackS hx (y := (⟨own_GU, "effectiveType", "()Ljava/lang/String;"⟩ : MethodName)) (z := (⟨own_GU, "effectiveType", "()Ljava/lang/String;"⟩ : MethodName)) ho672 (mvT hZ672 (own_w hw 73 rfl)) (mvT hZ672 (own_w hw 74 rfl)) (notFace_of_selects (args := #[]) (mvT hZ672 (own_w hw 76 rfl))) (mvT hZ672 (own_w hw 76 rfl)) (mvT hZ672 (own_w hw 75 rfl)) (by decide) (backOfSH (W := 0) (rm10_n l Z ar0 hw [] b616 s_EMPTY h672 n0 Z672 Q672_0 Q672_4 Ef676 Ff677) hZ672 (own_w hw 77 rfl) (own_w hw 34 rfl) (by decide) (by decide) hEL CR672.1) q686a q686c (g := (mkF m 217 #[vI p0, vI p1, vI p2, vI p3, vI p4, vI v273, vI v279, vI v285, vI v291, vI v294, vI v297, vI v300, vI v303, vR b306, vR b343, vR b353, vR s_EMPTY, vR b598, vR s_EMPTY, vR b616, .unset] [(.ref b616)])) rfl (by rw [hml]; rfl) (Steps.refl _) (argsL := []) (rest := []) (lenOf pd_12 rfl) rfl (by show 2 * 0 + _ ≤ _; exact Nat.le_of_eq rfl) (hb hby at_217) (fun _ _ => ⟨rfl, e672, (by decide : 25 + 2 ≤ _), (by decide : 265 + 8 ≤ _)⟩)
     dsimp only [Pt.U, Pt.locs, Pt.cells, Pt.slots] at X686r hS686r hg686r l686 y686 z686 st686 hQ686 hC686
     subst l686 y686 z686
     obtain ⟨X686, hS686, hZ686, ho686⟩ := rebS (s := s) (vm0 := T672.vm) (n1 := T672.heap.size) hS672 (by rw [e672]; first | exact hk672 | exact Nat.le_refl _) X686r hS686r hg686r hZ672 ho672
     obtain ⟨h686, e686⟩ : ∃ h, T686.heap = h := ⟨_, rfl⟩
     rw [e686] at hQ686
     obtain ⟨b686, b686b, kb686b, rfl, N686q, K686q, Ob686_0, Ob686_1, Ob686_2, Ob686b_0⟩ := hQ686
     have N686 := Fr.app N672 N686q
     have Z686 : n0 ≤ h686.size := Nat.le_trans Z672 K686q.1
     have K686 : Keep h0 h686 [] := K672.trans K686q (fun x hx => absurd hx List.not_mem_nil)
     have Sf687 : Sta Z h686 "java/lang/String" "COMPACT_STRINGS" "Z" (.int gc1) := own_sta_keep0 Sf673 K686q
     have Sf688 : Sta Z h686 "jdk/internal/util/Preconditions" "SIOOBE_FORMATTER" "Ljava/util/function/BiFunction;" gf3 := own_sta_keep0 Sf674 K686q
     have Sf689 : Sta Z h686 "java/util/Optional" "EMPTY" "Ljava/util/Optional;" (.ref s_EMPTY) := own_sta_keep0 Sf675 K686q
     have Ef690 : Exa Z h686 s_EMPTY "java/util/Optional" := (Ef676).keep K686q
     have Ff691 : Fld Z h686 s_EMPTY "java/util/Optional" "value" "Ljava/lang/Object;" .null := (Ff677).keep K686q List.not_mem_nil
     have Ef692 : Exa Z h686 b343 "java/lang/String" := (Ef678).keep K686q
     have Ff693 : Fld Z h686 b343 "java/lang/String" "value" "[B" (.ref b343b) := (Ff679).keep K686q List.not_mem_nil
     have Ff694 : Fld Z h686 b343 "java/lang/String" "coder" "B" (.int 0) := (Ff680).keep K686q List.not_mem_nil
     have Ef695 : Exa Z h686 b343b "[B" := (Ef681).keep K686q
     have Vf696 : Arv Z h686 b343b kb343b .byte (1 : Int32) ((([v294] : List Int32).map (fun c => c.toInt8.toInt32)).map Value.int) (.int 0) := (Vf682).keep K686q List.not_mem_nil
     have Ef697 : Exa Z h686 b616 own_GU := (Q672_0).keep K686q
     have Ff698 : Fld Z h686 b616 own_GU "text" "Ljava/lang/String;" (.ref a629) := (Q672_1).keep K686q List.not_mem_nil
     have Ff699 : Fld Z h686 b616 own_GU "host" "Ljava/lang/String;" (.ref a649) := (Q672_2).keep K686q List.not_mem_nil
     have Ff700 : Fld Z h686 b616 own_GU "port" "Ljava/util/Optional;" (.ref s_EMPTY) := (Q672_3).keep K686q List.not_mem_nil
     have Ff701 : Fld Z h686 b616 own_GU "type" "Ljava/util/Optional;" (.ref s_EMPTY) := (Q672_4).keep K686q List.not_mem_nil
     have Ff702 : Fld Z h686 b616 own_GU "selector" "Ljava/lang/String;" (.ref b353) := (Q672_5).keep K686q List.not_mem_nil
     have Ff703 : Fld Z h686 b616 own_GU "search" "Ljava/util/Optional;" (.ref b598) := (Q672_6).keep K686q List.not_mem_nil
     have Ff704 : Fld Z h686 b616 own_GU "gopherPlus" "Ljava/util/Optional;" (.ref s_EMPTY) := (Q672_7).keep K686q List.not_mem_nil
     rw [e686] at hC686
     have CR686 := CR672.trans hC686
     have hk686 : T686.heap.size ≤ h686.size := by rw [e686]; exact Nat.le_refl _
     have pre705 : own_P p e below T686 (mkF m 220 #[vI p0, vI p1, vI p2, vI p3, vI p4, vI v273, vI v279, vI v285, vI v291, vI v294, vI v297, vI v300, vI v303, vR b306, vR b343, vR b353, vR s_EMPTY, vR b598, vR s_EMPTY, vR b616, .unset] [(.ref b686)]) s₁ (own_E m p0 p1 p2 p3 p4) := fun t k => pre685 t (st686.trans k)
     have pre706 : own_P p e below T686 (mkF m 244 #[vI p0, vI p1, vI p2, vI p3, vI p4, vI v273, vI v279, vI v285, vI v291, vI v294, vI v297, vI v300, vI v303, vR b306, vR b343, vR b353, vR s_EMPTY, vR b598, vR s_EMPTY, vR b616, vR b686] [(.ref b686)]) s₁ (own_E m p0 p1 p2 p3 p4) := by
      intro t k
      refine pre705 t ?_
      refine XS.astore X686.here hx rfl (hb hby at_220) rfl rfl (l' := #[vI p0, vI p1, vI p2, vI p3, vI p4, vI v273, vI v279, vI v285, vI v291, vI v294, vI v297, vI v300, vI v303, vR b306, vR b343, vR b353, vR s_EMPTY, vR b598, vR s_EMPTY, vR b616, vR b686]) rfl ?_
      refine XS.aload X686.here hx rfl (hb hby at_222) rfl rfl ?_
      refine XS.ifnonnullYes X686.here hx rfl (pc0 := 224) (pc' := 229) rfl (hb hby at_224) rfl (by decide) (by decide) ?_
      refine XS.iload X686.here hx rfl (hb hby at_229) rfl ?_
      refine XS.ifYes X686.here hx rfl (pc0 := 231) (pc' := 242) rfl (hb hby at_231) rfl ((if0 _ _).trans (teq hc139_368).1) (by decide) (by decide) ?_
      refine XS.aload X686.here hx rfl (hb hby at_242) rfl rfl ?_
      exact k
     obtain ⟨cq707, kq707, q707a, q707b, q707c⟩ := isOf hZ686 e686 Ob686_0
     obtain ⟨_, _, ⟨T707, L707, k707, n707⟩, -, X707, ⟨Lc707, hQ707, l707, y707, z707⟩, st707⟩ := X686.virtualBack hx (y := (⟨"java/lang/String", "length", "()I"⟩ : MethodName)) (z := (⟨"java/lang/String", "length", "()I"⟩ : MethodName)) ho686 (mvT hZ686 (own_w hw 87 rfl)) (mvT hZ686 (own_w hw 88 rfl)) (notFace_of_selects (args := #[]) (mvT hZ686 (own_w hw 90 rfl))) (mvT hZ686 (own_w hw 90 rfl)) (mvT hZ686 (own_w hw 89 rfl)) (by decide) (StrChars.Road.lenW (W := 0) hZ686 (own_wordsLen hw) (kI := 4) (own_w hw 11 rfl) Ob686_0 Ob686_2 Ob686_1 Ob686b_0 (own_hcdG (cs := [49]) (by decide)) (own_up [49] (by decide)) Sf687 P5 (Nat.le_of_ble_eq_true rfl) (by decide) (by decide)) q707a q707c (g := (mkF m 244 #[vI p0, vI p1, vI p2, vI p3, vI p4, vI v273, vI v279, vI v285, vI v291, vI v294, vI v297, vI v300, vI v303, vR b306, vR b343, vR b353, vR s_EMPTY, vR b598, vR s_EMPTY, vR b616, vR b686] [(.ref b686)])) rfl (by rw [hml]; rfl) (Steps.refl _) (argsL := []) (rest := []) (lenOf pd_13 rfl) rfl (by show 2 * 0 + _ ≤ _; exact Nat.le_of_eq rfl) (hb hby at_244) (fun _ _ => ⟨rfl, e686, (by decide : 27 + 0 ≤ _), (by decide : 273 + 0 ≤ _)⟩)
     dsimp only [Pt.U, Pt.locs, Pt.cells, Pt.slots] at X707 l707 y707 z707 st707 hQ707
     subst l707 y707 z707
     obtain ⟨rfl, rfl, e707⟩ := hQ707
     try rw [List.append_nil] at X707
     have pre708 : own_P p e below T707 (mkF m 247 #[vI p0, vI p1, vI p2, vI p3, vI p4, vI v273, vI v279, vI v285, vI v291, vI v294, vI v297, vI v300, vI v303, vR b306, vR b343, vR b353, vR s_EMPTY, vR b598, vR s_EMPTY, vR b616, vR b686] [(.int (Int32.ofNat ([49] : List Int32).length))]) s₁ (own_E m p0 p1 p2 p3 p4) := fun t k => pre706 t (st707.trans k)
     have pre709 : own_P p e below T707 (mkF m 248 #[vI p0, vI p1, vI p2, vI p3, vI p4, vI v273, vI v279, vI v285, vI v291, vI v294, vI v297, vI v300, vI v303, vR b306, vR b343, vR b353, vR s_EMPTY, vR b598, vR s_EMPTY, vR b616, vR b686] [(.int 1), (.int (Int32.ofNat ([49] : List Int32).length))]) s₁ (own_E m p0 p1 p2 p3 p4) := by
      intro t k
      refine pre708 t ?_
      refine XS.iconst X707.here hx rfl (hb hby at_247) ?_
      exact k
     have hk710 : (Int32.ofNat ([49] : List Int32).length) = (1 : Int32) := (by decide)
     have pre711 : own_P p e below T707 (mkF m 254 #[vI p0, vI p1, vI p2, vI p3, vI p4, vI v273, vI v279, vI v285, vI v291, vI v294, vI v297, vI v300, vI v303, vR b306, vR b343, vR b353, vR s_EMPTY, vR b598, vR s_EMPTY, vR b616, vR b686] [(.int 0), (.ref b686)]) s₁ (own_E m p0 p1 p2 p3 p4) := by
      intro t k
      refine pre709 t ?_
      refine XS.icmpNo X707.here hx rfl (hb hby at_248) rfl (teq hk710).2 ?_
      refine XS.aload X707.here hx rfl (hb hby at_251) rfl rfl ?_
      refine XS.iconst X707.here hx rfl (hb hby at_253) ?_
      exact k
     obtain ⟨cq712, kq712, q712a, q712b, q712c⟩ := isOf hZ686 e707 Ob686_0
     obtain ⟨_, _, ⟨T712, L712, k712, n712⟩, -, X712, ⟨Lc712, hQ712, l712, y712, z712⟩, st712⟩ := X707.virtualBack hx (y := (⟨"java/lang/String", "charAt", "(I)C"⟩ : MethodName)) (z := (⟨"java/lang/String", "charAt", "(I)C"⟩ : MethodName)) ho686 (mvT hZ686 (own_w hw 97 rfl)) (mvT hZ686 (own_w hw 98 rfl)) (notFace_of_selects (args := #[]) (mvT hZ686 (own_w hw 100 rfl))) (mvT hZ686 (own_w hw 100 rfl)) (mvT hZ686 (own_w hw 99 rfl)) (by decide) (StrChars.Road.chN (W := 0) hZ686 (own_wordsChN hw) (kI := 4) (own_w hw 11 rfl) Ob686_0 Ob686_2 Ob686_1 Ob686b_0 (own_hcdG (cs := [49]) (by decide)) (own_up [49] (by decide)) Sf687 P5 Sf688 rG3 (Nat.le_of_ble_eq_true rfl) (i := 0) (by decide) (j := (0 : Int32)) rfl (by decide) (by decide)) q712a q712c (g := (mkF m 254 #[vI p0, vI p1, vI p2, vI p3, vI p4, vI v273, vI v279, vI v285, vI v291, vI v294, vI v297, vI v300, vI v303, vR b306, vR b343, vR b353, vR s_EMPTY, vR b598, vR s_EMPTY, vR b616, vR b686] [(.int 0), (.ref b686)])) rfl (by rw [hml]; rfl) (Steps.refl _) (argsL := [(.int 0)]) (rest := []) (lenOf pd_14 rfl) rfl (by show 2 * 0 + _ ≤ _; exact Nat.le_of_eq rfl) (hb hby at_254) (fun _ _ => ⟨rfl, e707, (by decide : 27 + 0 ≤ _), (by decide : 273 + 0 ≤ _)⟩)
     dsimp only [Pt.U, Pt.locs, Pt.cells, Pt.slots] at X712 l712 y712 z712 st712 hQ712
     subst l712 y712 z712
     obtain ⟨rfl, rfl, e712⟩ := hQ712
     try rw [List.append_nil] at X712
     have pre713 : own_P p e below T712 (mkF m 257 #[vI p0, vI p1, vI p2, vI p3, vI p4, vI v273, vI v279, vI v285, vI v291, vI v294, vI v297, vI v300, vI v303, vR b306, vR b343, vR b353, vR s_EMPTY, vR b598, vR s_EMPTY, vR b616, vR b686] [(.int (([49] : List Int32).getD 0 0))]) s₁ (own_E m p0 p1 p2 p3 p4) := fun t k => pre711 t (st712.trans k)
     have pre714 : own_P p e below T712 (mkF m 259 #[vI p0, vI p1, vI p2, vI p3, vI p4, vI v273, vI v279, vI v285, vI v291, vI v294, vI v297, vI v300, vI v303, vR b306, vR b343, vR b353, vR s_EMPTY, vR b598, vR s_EMPTY, vR b616, vR b686] [(.int 49), (.int (([49] : List Int32).getD 0 0))]) s₁ (own_E m p0 p1 p2 p3 p4) := by
      intro t k
      refine pre713 t ?_
      refine XS.bipush X712.here hx rfl (hb hby at_257) ?_
      exact k
     have hk715 : (([49] : List Int32).getD 0 0) = (49 : Int32) := (by decide)
     obtain ⟨fs, hr, hrun, hended, hRW⟩ := X712.leaveW (s := s) (vm₁ := T686.vm) hS686 (by rw [e712]; first | exact hk686 | exact Nat.le_refl _) (v := some (.int 1)) (fun h => by rw [Bd.returns] at h; cases h)
     refine ⟨_, _, pre714 _ ?_, hrun, hended, _, _, rfl, ?_, hRW.1, hRW.2.1, hRW.2.2.1, hRW.2.2.2.mono (by decide) (by decide)⟩
     ·
      refine XS.icmpNo X712.here hx rfl (hb hby at_259) rfl (teq hk715).2 ?_
      refine XS.iconst X712.here hx rfl (hb hby at_262) ?_
      refine XS.goto X712.here hx rfl (pc0 := 263) (pc' := 267) rfl (hb hby at_263) (by decide) (by decide) ?_
      exact retN X712 hx (t := .boolean) Bd.returns (by simp) (hb hby at_267) hr
     ·
      show Q0 Z p0 p1 p2 p3 p4 gc1 gf3 s_EMPTY h0 n0 _ T712.heap _
      rw [e712]
      exact ⟨rfl, N686⟩
    ·
     have pre716 : ∀ t, Steps p.tables e below (T598.setTop (mkF m 180 #[vI p0, vI p1, vI p2, vI p3, vI p4, vI v273, vI v279, vI v285, vI v291, vI v294, vI v297, vI v300, vI v303, vR b306, vR b343, vR b353, vR s_EMPTY, vR b598, .unset, .unset, .unset] [(.ref b353)])) t → Steps p.tables e below (s₁.setTop (own_E m p0 p1 p2 p3 p4)) t := by
      intro t k
      refine pre610 t ?_
      refine XS.ifNo X598.here hx rfl (hb hby at_175) rfl ((if0 _ _).trans (feq hc175_611).1) ?_
      refine XS.aload X598.here hx rfl (hb hby at_178) rfl rfl ?_
      exact k
     obtain ⟨_, _, ⟨T717, L717, k717, n717⟩, -, X717, ⟨Lc717, hQ717, l717, y717, z717⟩, st717⟩ := Jvm.LawKit.callS X598 hx (y := (⟨"java/util/Optional", "of", "(Ljava/lang/Object;)Ljava/util/Optional;"⟩ : MethodName)) hown (mvT hZ (own_w hw 135 rfl)) (mvT hZ (own_w hw 136 rfl)) (mvT hZ (own_w hw 29 rfl)) (mvT hZ (own_w hw 137 rfl)) (by decide) (backOf (W := 0) (rm24 l Z ar0 hw [] b353 h598 n0 Z598) hZ (own_w hw 137 rfl) (own_w hw 29 rfl) (by decide) (by decide)) (g := (mkF m 180 #[vI p0, vI p1, vI p2, vI p3, vI p4, vI v273, vI v279, vI v285, vI v291, vI v294, vI v297, vI v300, vI v303, vR b306, vR b343, vR b353, vR s_EMPTY, vR b598, .unset, .unset, .unset] [(.ref b353)])) rfl (by rw [hml]; rfl) (argsL := [(.ref b353)]) (rest := []) (lenOf pd_10 rfl) rfl (by show 2 * 0 + _ ≤ _; exact Nat.le_of_eq rfl) (hb hby at_180) (fun _ _ => ⟨rfl, e598, (by decide : 6 + 1 ≤ _), (by decide : 14 + 1 ≤ _)⟩)
     dsimp only [Pt.U, Pt.locs, Pt.cells, Pt.slots] at X717 l717 y717 z717 st717 hQ717
     subst l717 y717 z717
     obtain ⟨h717, e717⟩ : ∃ h, T717.heap = h := ⟨_, rfl⟩
     rw [e717] at hQ717
     obtain ⟨b717, rfl, N717q, K717q, y_b717, Ob717_0, Ob717_1⟩ := hQ717
     have N717 := Fr.app N598 N717q
     have ne_s_EMPTY_b717 : s_EMPTY ≠ b717 := Nat.ne_of_lt (Nat.lt_of_lt_of_le (Ef602).lt y_b717)
     have ne_b343_b717 : b343 ≠ b717 := Nat.ne_of_lt (Nat.lt_of_lt_of_le (Ef604).lt y_b717)
     have ne_b343b_b717 : b343b ≠ b717 := Nat.ne_of_lt (Nat.lt_of_lt_of_le (Ef607).lt y_b717)
     have g_b717 : n0 ≤ b717 := Nat.le_trans Z598 y_b717
     have sz_b717 : h0.size ≤ b717 := Nat.le_trans K598.1 y_b717
     have Z717 : n0 ≤ h717.size := Nat.le_trans Z598 K717q.1
     have hk717 := Nat.le_trans hk598 K717q.1
     have K717 : Keep h0 h717 [] := K598.trans K717q (fun x hx => absurd hx List.not_mem_nil)
     have CR717 := CR598.trans (CHr.keep K717q sf0 CR598.1)
     have Sf718 : Sta Z h717 "java/lang/String" "COMPACT_STRINGS" "Z" (.int gc1) := own_sta_keep0 Sf599 K717q
     have Sf719 : Sta Z h717 "jdk/internal/util/Preconditions" "SIOOBE_FORMATTER" "Ljava/util/function/BiFunction;" gf3 := own_sta_keep0 Sf600 K717q
     have Sf720 : Sta Z h717 "java/util/Optional" "EMPTY" "Ljava/util/Optional;" (.ref s_EMPTY) := own_sta_keep0 Sf601 K717q
     have Ef721 : Exa Z h717 s_EMPTY "java/util/Optional" := (Ef602).keep K717q
     have Ff722 : Fld Z h717 s_EMPTY "java/util/Optional" "value" "Ljava/lang/Object;" .null := (Ff603).keep K717q List.not_mem_nil
     have Ef723 : Exa Z h717 b343 "java/lang/String" := (Ef604).keep K717q
     have Ff724 : Fld Z h717 b343 "java/lang/String" "value" "[B" (.ref b343b) := (Ff605).keep K717q List.not_mem_nil
     have Ff725 : Fld Z h717 b343 "java/lang/String" "coder" "B" (.int 0) := (Ff606).keep K717q List.not_mem_nil
     have Ef726 : Exa Z h717 b343b "[B" := (Ef607).keep K717q
     have Vf727 : Arv Z h717 b343b kb343b .byte (1 : Int32) ((([v294] : List Int32).map (fun c => c.toInt8.toInt32)).map Value.int) (.int 0) := (Vf608).keep K717q List.not_mem_nil
     have pre728 : own_P p e below T717 (mkF m 183 #[vI p0, vI p1, vI p2, vI p3, vI p4, vI v273, vI v279, vI v285, vI v291, vI v294, vI v297, vI v300, vI v303, vR b306, vR b343, vR b353, vR s_EMPTY, vR b598, .unset, .unset, .unset] [(.ref b717)]) s₁ (own_E m p0 p1 p2 p3 p4) := fun t k => pre716 t (st717 t k)
     have pre729 : own_P p e below T717 (mkF m 191 #[vI p0, vI p1, vI p2, vI p3, vI p4, vI v273, vI v279, vI v285, vI v291, vI v294, vI v297, vI v300, vI v303, vR b306, vR b343, vR b353, vR s_EMPTY, vR b598, vR b717, .unset, .unset] []) s₁ (own_E m p0 p1 p2 p3 p4) := by
      intro t k
      refine pre728 t ?_
      refine XS.goto X717.here hx rfl (pc0 := 183) (pc' := 189) rfl (hb hby at_183) (by decide) (by decide) ?_
      refine XS.astore X717.here hx rfl (hb hby at_189) rfl rfl (l' := #[vI p0, vI p1, vI p2, vI p3, vI p4, vI v273, vI v279, vI v285, vI v291, vI v294, vI v297, vI v300, vI v303, vR b306, vR b343, vR b353, vR s_EMPTY, vR b598, vR b717, .unset, .unset]) rfl ?_
      exact k
     obtain ⟨T730, h730, X730, e730, E730, A730, D730, -, st730⟩ := newO X717 hx hZ hown (own_w hw 32 rfl) (own_w hw 33 rfl) (own_w hw 34 rfl) e717 (g := (mkF m 191 #[vI p0, vI p1, vI p2, vI p3, vI p4, vI v273, vI v279, vI v285, vI v291, vI v294, vI v297, vI v300, vI v303, vR b306, vR b343, vR b353, vR s_EMPTY, vR b598, vR b717, .unset, .unset] [])) rfl (hb hby at_191) (by decide) (by decide)
     obtain ⟨b730, g730⟩ : ∃ z, z = h717.size := ⟨_, rfl⟩
     rw [← g730] at A730 D730 st730
     have ne_s_EMPTY_b730 : s_EMPTY ≠ b730 := Nat.ne_of_lt (Nat.lt_of_lt_of_le (Ef721).lt (Nat.le_of_eq g730.symm))
     have ne_b343_b730 : b343 ≠ b730 := Nat.ne_of_lt (Nat.lt_of_lt_of_le (Ef723).lt (Nat.le_of_eq g730.symm))
     have ne_b343b_b730 : b343b ≠ b730 := Nat.ne_of_lt (Nat.lt_of_lt_of_le (Ef726).lt (Nat.le_of_eq g730.symm))
     have g_b730 : n0 ≤ b730 := Nat.le_trans Z717 (Nat.le_of_eq g730.symm)
     have sz_b730 : h0.size ≤ b730 := Nat.le_trans K717.1 (Nat.le_of_eq g730.symm)
     have Z730 : n0 ≤ h730.size := Nat.le_trans Z717 E730.1
     have K730 : Keep h0 h730 [] := K717.ext E730
     have hk730 := Nat.le_trans hk717 E730.1
     have CR730 := CR717.trans (CHr.ext E730 CR717.1)
     have Sf731 : Sta Z h730 "java/lang/String" "COMPACT_STRINGS" "Z" (.int gc1) := (Sf718).ext E730
     have Sf732 : Sta Z h730 "jdk/internal/util/Preconditions" "SIOOBE_FORMATTER" "Ljava/util/function/BiFunction;" gf3 := (Sf719).ext E730
     have Sf733 : Sta Z h730 "java/util/Optional" "EMPTY" "Ljava/util/Optional;" (.ref s_EMPTY) := (Sf720).ext E730
     have Ef734 : Exa Z h730 s_EMPTY "java/util/Optional" := (Ef721).ext E730
     have Ff735 : Fld Z h730 s_EMPTY "java/util/Optional" "value" "Ljava/lang/Object;" .null := (Ff722).ext E730
     have Ef736 : Exa Z h730 b343 "java/lang/String" := (Ef723).ext E730
     have Ff737 : Fld Z h730 b343 "java/lang/String" "value" "[B" (.ref b343b) := (Ff724).ext E730
     have Ff738 : Fld Z h730 b343 "java/lang/String" "coder" "B" (.int 0) := (Ff725).ext E730
     have Ef739 : Exa Z h730 b343b "[B" := (Ef726).ext E730
     have Vf740 : Arv Z h730 b343b kb343b .byte (1 : Int32) ((([v294] : List Int32).map (fun c => c.toInt8.toInt32)).map Value.int) (.int 0) := (Vf727).ext E730
     have Ftext_b730 : Fld Z h730 b730 own_GU "text" "Ljava/lang/String;" .null := D730 (Or.inr (own_w hw 60 rfl)) (ty := (.object "java/lang/String")) (by decide)
     have Fhost_b730 : Fld Z h730 b730 own_GU "host" "Ljava/lang/String;" .null := D730 (Or.inr (own_w hw 62 rfl)) (ty := (.object "java/lang/String")) (by decide)
     have Fport_b730 : Fld Z h730 b730 own_GU "port" "Ljava/util/Optional;" .null := D730 (Or.inr (own_w hw 64 rfl)) (ty := (.object "java/util/Optional")) (by decide)
     have Ftype_b730 : Fld Z h730 b730 own_GU "type" "Ljava/util/Optional;" .null := D730 (Or.inr (own_w hw 66 rfl)) (ty := (.object "java/util/Optional")) (by decide)
     have Fselector_b730 : Fld Z h730 b730 own_GU "selector" "Ljava/lang/String;" .null := D730 (Or.inr (own_w hw 68 rfl)) (ty := (.object "java/lang/String")) (by decide)
     have Fsearch_b730 : Fld Z h730 b730 own_GU "search" "Ljava/util/Optional;" .null := D730 (Or.inr (own_w hw 70 rfl)) (ty := (.object "java/util/Optional")) (by decide)
     have FgopherPlus_b730 : Fld Z h730 b730 own_GU "gopherPlus" "Ljava/util/Optional;" .null := D730 (Or.inr (own_w hw 72 rfl)) (ty := (.object "java/util/Optional")) (by decide)
     have pre741 : own_P p e below T730 (mkF m 194 #[vI p0, vI p1, vI p2, vI p3, vI p4, vI v273, vI v279, vI v285, vI v291, vI v294, vI v297, vI v300, vI v303, vR b306, vR b343, vR b353, vR s_EMPTY, vR b598, vR b717, .unset, .unset] [(.ref b730)]) s₁ (own_E m p0 p1 p2 p3 p4) := fun t k => pre729 t (st730 t k)
     have pre742 : own_P p e below T730 (mkF m 195 #[vI p0, vI p1, vI p2, vI p3, vI p4, vI v273, vI v279, vI v285, vI v291, vI v294, vI v297, vI v300, vI v303, vR b306, vR b343, vR b353, vR s_EMPTY, vR b598, vR b717, .unset, .unset] [(.ref b730), (.ref b730)]) s₁ (own_E m p0 p1 p2 p3 p4) := by
      intro t k
      refine pre741 t ?_
      refine XS.dup X730.here hx rfl (hb hby at_194) rfl rfl ?_
      exact k
     obtain ⟨a743, T743, h743, k743, X743, e743, E743, hS743, hk743, hZ743, ho743, hC743, -, st743⟩ := ldcOH (s := s) (vm0 := s.vm) X730 hx hZ hown (own_w hw 35 rfl) (own_strW hw) e730 hS0 hk730 hEL CR730.1 (g := (mkF m 195 #[vI p0, vI p1, vI p2, vI p3, vI p4, vI v273, vI v279, vI v285, vI v291, vI v294, vI v297, vI v300, vI v303, vR b306, vR b343, vR b353, vR s_EMPTY, vR b598, vR b717, .unset, .unset] [(.ref b730), (.ref b730)])) rfl (hb hby at_195) (n := 44) (by decide) (by decide) (by decide) (by decide)
     have CR743 := CR730.trans hC743
     have Z743 : n0 ≤ h743.size := Nat.le_trans Z730 E743.1
     have K743 : Keep h0 h743 [] := K730.ext E743
     have Sf744 : Sta Z h743 "java/lang/String" "COMPACT_STRINGS" "Z" (.int gc1) := (Sf731).ext E743
     have Sf745 : Sta Z h743 "jdk/internal/util/Preconditions" "SIOOBE_FORMATTER" "Ljava/util/function/BiFunction;" gf3 := (Sf732).ext E743
     have Sf746 : Sta Z h743 "java/util/Optional" "EMPTY" "Ljava/util/Optional;" (.ref s_EMPTY) := (Sf733).ext E743
     have Ef747 : Exa Z h743 s_EMPTY "java/util/Optional" := (Ef734).ext E743
     have Ff748 : Fld Z h743 s_EMPTY "java/util/Optional" "value" "Ljava/lang/Object;" .null := (Ff735).ext E743
     have Ef749 : Exa Z h743 b343 "java/lang/String" := (Ef736).ext E743
     have Ff750 : Fld Z h743 b343 "java/lang/String" "value" "[B" (.ref b343b) := (Ff737).ext E743
     have Ff751 : Fld Z h743 b343 "java/lang/String" "coder" "B" (.int 0) := (Ff738).ext E743
     have Ef752 : Exa Z h743 b343b "[B" := (Ef739).ext E743
     have Vf753 : Arv Z h743 b343b kb343b .byte (1 : Int32) ((([v294] : List Int32).map (fun c => c.toInt8.toInt32)).map Value.int) (.int 0) := (Vf740).ext E743
     have Ef754 : Exa Z h743 b730 own_GU := (A730).ext E743
     have Ff755 : Fld Z h743 b730 own_GU "text" "Ljava/lang/String;" .null := (Ftext_b730).ext E743
     have Ff756 : Fld Z h743 b730 own_GU "host" "Ljava/lang/String;" .null := (Fhost_b730).ext E743
     have Ff757 : Fld Z h743 b730 own_GU "port" "Ljava/util/Optional;" .null := (Fport_b730).ext E743
     have Ff758 : Fld Z h743 b730 own_GU "type" "Ljava/util/Optional;" .null := (Ftype_b730).ext E743
     have Ff759 : Fld Z h743 b730 own_GU "selector" "Ljava/lang/String;" .null := (Fselector_b730).ext E743
     have Ff760 : Fld Z h743 b730 own_GU "search" "Ljava/util/Optional;" .null := (Fsearch_b730).ext E743
     have Ff761 : Fld Z h743 b730 own_GU "gopherPlus" "Ljava/util/Optional;" .null := (FgopherPlus_b730).ext E743
     have pre762 : own_P p e below T743 (mkF m 197 #[vI p0, vI p1, vI p2, vI p3, vI p4, vI v273, vI v279, vI v285, vI v291, vI v294, vI v297, vI v300, vI v303, vR b306, vR b343, vR b353, vR s_EMPTY, vR b598, vR b717, .unset, .unset] [(.ref a743), (.ref b730), (.ref b730)]) s₁ (own_E m p0 p1 p2 p3 p4) := fun t k => pre742 t (st743 t k)
     obtain ⟨a763, T763, h763, k763, X763, e763, E763, hS763, hk763, hZ763, ho763, hC763, -, st763⟩ := ldcOH (s := s) (vm0 := T743.vm) X743 hx hZ743 ho743 (own_w hw 38 rfl) (own_strW hw) e743 hS743 hk743 hEL CR743.1 (g := (mkF m 197 #[vI p0, vI p1, vI p2, vI p3, vI p4, vI v273, vI v279, vI v285, vI v291, vI v294, vI v297, vI v300, vI v303, vR b306, vR b343, vR b353, vR s_EMPTY, vR b598, vR b717, .unset, .unset] [(.ref a743), (.ref b730), (.ref b730)])) rfl (hb hby at_197) (n := 4) (by decide) (by decide) (by decide) (by decide)
     have CR763 := CR743.trans hC763
     have Z763 : n0 ≤ h763.size := Nat.le_trans Z743 E763.1
     have K763 : Keep h0 h763 [] := K743.ext E763
     have Sf764 : Sta Z h763 "java/lang/String" "COMPACT_STRINGS" "Z" (.int gc1) := (Sf744).ext E763
     have Sf765 : Sta Z h763 "jdk/internal/util/Preconditions" "SIOOBE_FORMATTER" "Ljava/util/function/BiFunction;" gf3 := (Sf745).ext E763
     have Sf766 : Sta Z h763 "java/util/Optional" "EMPTY" "Ljava/util/Optional;" (.ref s_EMPTY) := (Sf746).ext E763
     have Ef767 : Exa Z h763 s_EMPTY "java/util/Optional" := (Ef747).ext E763
     have Ff768 : Fld Z h763 s_EMPTY "java/util/Optional" "value" "Ljava/lang/Object;" .null := (Ff748).ext E763
     have Ef769 : Exa Z h763 b343 "java/lang/String" := (Ef749).ext E763
     have Ff770 : Fld Z h763 b343 "java/lang/String" "value" "[B" (.ref b343b) := (Ff750).ext E763
     have Ff771 : Fld Z h763 b343 "java/lang/String" "coder" "B" (.int 0) := (Ff751).ext E763
     have Ef772 : Exa Z h763 b343b "[B" := (Ef752).ext E763
     have Vf773 : Arv Z h763 b343b kb343b .byte (1 : Int32) ((([v294] : List Int32).map (fun c => c.toInt8.toInt32)).map Value.int) (.int 0) := (Vf753).ext E763
     have Ef774 : Exa Z h763 b730 own_GU := (Ef754).ext E763
     have Ff775 : Fld Z h763 b730 own_GU "text" "Ljava/lang/String;" .null := (Ff755).ext E763
     have Ff776 : Fld Z h763 b730 own_GU "host" "Ljava/lang/String;" .null := (Ff756).ext E763
     have Ff777 : Fld Z h763 b730 own_GU "port" "Ljava/util/Optional;" .null := (Ff757).ext E763
     have Ff778 : Fld Z h763 b730 own_GU "type" "Ljava/util/Optional;" .null := (Ff758).ext E763
     have Ff779 : Fld Z h763 b730 own_GU "selector" "Ljava/lang/String;" .null := (Ff759).ext E763
     have Ff780 : Fld Z h763 b730 own_GU "search" "Ljava/util/Optional;" .null := (Ff760).ext E763
     have Ff781 : Fld Z h763 b730 own_GU "gopherPlus" "Ljava/util/Optional;" .null := (Ff761).ext E763
     have pre782 : own_P p e below T763 (mkF m 199 #[vI p0, vI p1, vI p2, vI p3, vI p4, vI v273, vI v279, vI v285, vI v291, vI v294, vI v297, vI v300, vI v303, vR b306, vR b343, vR b353, vR s_EMPTY, vR b598, vR b717, .unset, .unset] [(.ref a763), (.ref a743), (.ref b730), (.ref b730)]) s₁ (own_E m p0 p1 p2 p3 p4) := fun t k => pre762 t (st763 t k)
     have pre783 : own_P p e below T763 (mkF m 207 #[vI p0, vI p1, vI p2, vI p3, vI p4, vI v273, vI v279, vI v285, vI v291, vI v294, vI v297, vI v300, vI v303, vR b306, vR b343, vR b353, vR s_EMPTY, vR b598, vR b717, .unset, .unset] [(.ref b598), (.ref b353), (.ref s_EMPTY), (.ref b717), (.ref a763), (.ref a743), (.ref b730), (.ref b730)]) s₁ (own_E m p0 p1 p2 p3 p4) := by
      intro t k
      refine pre782 t ?_
      refine XS.aload X763.here hx rfl (hb hby at_199) rfl rfl ?_
      refine XS.aload X763.here hx rfl (hb hby at_201) rfl rfl ?_
      refine XS.aload X763.here hx rfl (hb hby at_203) rfl rfl ?_
      refine XS.aload X763.here hx rfl (hb hby at_205) rfl rfl ?_
      exact k
     obtain ⟨_, _, ⟨T784, L784, k784, n784⟩, -, X784, ⟨Lc784, hQ784, l784, y784, z784⟩, st784⟩ := Jvm.LawKit.callS X763 hx (y := (⟨"java/util/Optional", "empty", "()Ljava/util/Optional;"⟩ : MethodName)) ho763 (mvT hZ763 (own_w hw 27 rfl)) (mvT hZ763 (own_w hw 28 rfl)) (mvT hZ763 (own_w hw 29 rfl)) (mvT hZ763 (own_w hw 30 rfl)) (by decide) (backOf (W := 8) (rm6 l Z ar0 hw [] s_EMPTY h763 n0 Z763 Sf766) hZ763 (own_w hw 30 rfl) (own_w hw 29 rfl) (by decide) (by decide)) (g := (mkF m 207 #[vI p0, vI p1, vI p2, vI p3, vI p4, vI v273, vI v279, vI v285, vI v291, vI v294, vI v297, vI v300, vI v303, vR b306, vR b343, vR b353, vR s_EMPTY, vR b598, vR b717, .unset, .unset] [(.ref b598), (.ref b353), (.ref s_EMPTY), (.ref b717), (.ref a763), (.ref a743), (.ref b730), (.ref b730)])) rfl (by rw [hml]; rfl) (argsL := []) (rest := [(.ref b598), (.ref b353), (.ref s_EMPTY), (.ref b717), (.ref a763), (.ref a743), (.ref b730), (.ref b730)]) (lenOf pd_9 rfl) rfl (by show 2 * 0 + _ ≤ _; exact Nat.le_of_eq rfl) (hb hby at_207) (fun _ _ => ⟨rfl, e763, (by decide : 12 + 0 ≤ _), (by decide : 78 + 0 ≤ _)⟩)
     dsimp only [Pt.U, Pt.locs, Pt.cells, Pt.slots] at X784 l784 y784 z784 st784 hQ784
     subst l784 y784 z784
     obtain ⟨rfl, N784q, e784⟩ := hQ784
     have N784 := Fr.app N717 N784q
     have pre785 : own_P p e below T784 (mkF m 210 #[vI p0, vI p1, vI p2, vI p3, vI p4, vI v273, vI v279, vI v285, vI v291, vI v294, vI v297, vI v300, vI v303, vR b306, vR b343, vR b353, vR s_EMPTY, vR b598, vR b717, .unset, .unset] [(.ref s_EMPTY), (.ref b598), (.ref b353), (.ref s_EMPTY), (.ref b717), (.ref a763), (.ref a743), (.ref b730), (.ref b730)]) s₁ (own_E m p0 p1 p2 p3 p4) := fun t k => pre783 t (st784 t k)
     obtain ⟨_, _, ⟨T786, L786, k786, n786⟩, -, X786r, hS786r, hg786r, ⟨Lc786, hQ786, l786, y786, z786, hC786⟩, st786⟩ := X784.specialBackS hx (y := (⟨own_GU, "<init>", "(Ljava/lang/String;Ljava/lang/String;Ljava/util/Optional;Ljava/util/Optional;Ljava/lang/String;Ljava/util/Optional;Ljava/util/Optional;)V"⟩ : MethodName)) rfl ho763 (mvT hZ763 (own_w hw 39 rfl)) (mvT hZ763 (own_w hw 40 rfl)) (mvT hZ763 (own_w hw 41 rfl)) (by decide) (backOfSH (W := 1) (rm7 l Z ar0 hw [] b730 a743 a763 b717 s_EMPTY b353 b598 s_EMPTY .null .null .null .null .null .null .null h763 n0 Z763 Ef774 Ff775 Ff776 Ff777 Ff778 Ff779 Ff780 Ff781 g_b730) hZ763 (own_w hw 41 rfl) (own_w hw 34 rfl) (by decide) (by decide) hEL CR763.1) (g := (mkF m 210 #[vI p0, vI p1, vI p2, vI p3, vI p4, vI v273, vI v279, vI v285, vI v291, vI v294, vI v297, vI v300, vI v303, vR b306, vR b343, vR b353, vR s_EMPTY, vR b598, vR b717, .unset, .unset] [(.ref s_EMPTY), (.ref b598), (.ref b353), (.ref s_EMPTY), (.ref b717), (.ref a763), (.ref a743), (.ref b730), (.ref b730)])) rfl (by rw [hml]; rfl) (Steps.refl _) (a := b730) (argsL := [(.ref a743), (.ref a763), (.ref b717), (.ref s_EMPTY), (.ref b353), (.ref b598), (.ref s_EMPTY)]) (rest := [(.ref b730)]) (lenOf pd_11 rfl) rfl (by show 2 * 0 + _ ≤ _; exact Nat.le_of_eq rfl) (hb hby at_210) (fun _ _ => ⟨rfl, e784, (by decide : 12 + 14 ≤ _), (by decide : 78 + 188 ≤ _)⟩)
     dsimp only [Pt.U, Pt.locs, Pt.cells, Pt.slots] at X786r hS786r hg786r l786 y786 z786 st786 hQ786 hC786
     subst l786 y786 z786
     obtain ⟨X786, hS786, hZ786, ho786⟩ := rebS (s := s) (vm0 := T763.vm) (n1 := T784.heap.size) hS763 (by rw [e784]; first | exact hk763 | exact Nat.le_refl _) X786r hS786r hg786r hZ763 ho763
     obtain ⟨h786, e786⟩ : ∃ h, T786.heap = h := ⟨_, rfl⟩
     rw [e786] at hQ786
     obtain ⟨rfl, N786q, K786q, Q786_0, Q786_1, Q786_2, Q786_3, Q786_4, Q786_5, Q786_6, Q786_7⟩ := hQ786
     have N786 := Fr.app N784 N786q
     have Z786 : n0 ≤ h786.size := Nat.le_trans Z763 K786q.1
     have K786 : Keep h0 h786 [] := K763.trans K786q (fun x hx => by cases List.mem_singleton.mp hx; exact Or.inr sz_b730)
     have Sf787 : Sta Z h786 "java/lang/String" "COMPACT_STRINGS" "Z" (.int gc1) := own_sta_keep Sf764 K786q (own_ns1 (own_ns_exa Ef774))
     have Sf788 : Sta Z h786 "jdk/internal/util/Preconditions" "SIOOBE_FORMATTER" "Ljava/util/function/BiFunction;" gf3 := own_sta_keep Sf765 K786q (own_ns1 (own_ns_exa Ef774))
     have Sf789 : Sta Z h786 "java/util/Optional" "EMPTY" "Ljava/util/Optional;" (.ref s_EMPTY) := own_sta_keep Sf766 K786q (own_ns1 (own_ns_exa Ef774))
     have Ef790 : Exa Z h786 s_EMPTY "java/util/Optional" := (Ef767).keep K786q
     have Ff791 : Fld Z h786 s_EMPTY "java/util/Optional" "value" "Ljava/lang/Object;" .null := (Ff768).keep K786q (fun q => absurd (List.mem_singleton.mp q) ne_s_EMPTY_b730)
     have Ef792 : Exa Z h786 b343 "java/lang/String" := (Ef769).keep K786q
     have Ff793 : Fld Z h786 b343 "java/lang/String" "value" "[B" (.ref b343b) := (Ff770).keep K786q (fun q => absurd (List.mem_singleton.mp q) ne_b343_b730)
     have Ff794 : Fld Z h786 b343 "java/lang/String" "coder" "B" (.int 0) := (Ff771).keep K786q (fun q => absurd (List.mem_singleton.mp q) ne_b343_b730)
     have Ef795 : Exa Z h786 b343b "[B" := (Ef772).keep K786q
     have Vf796 : Arv Z h786 b343b kb343b .byte (1 : Int32) ((([v294] : List Int32).map (fun c => c.toInt8.toInt32)).map Value.int) (.int 0) := (Vf773).keep K786q (fun q => absurd (List.mem_singleton.mp q) ne_b343b_b730)
     have Ef797 : Exa Z h786 b730 own_GU := (Ef774).keep K786q
     rw [e786] at hC786
     have CR786 := CR763.trans hC786
     have hk786 : T786.heap.size ≤ h786.size := by rw [e786]; exact Nat.le_refl _
     have pre798 : own_P p e below T786 (mkF m 213 #[vI p0, vI p1, vI p2, vI p3, vI p4, vI v273, vI v279, vI v285, vI v291, vI v294, vI v297, vI v300, vI v303, vR b306, vR b343, vR b353, vR s_EMPTY, vR b598, vR b717, .unset, .unset] [(.ref b730)]) s₁ (own_E m p0 p1 p2 p3 p4) := fun t k => pre785 t (st786.trans k)
     have pre799 : own_P p e below T786 (mkF m 217 #[vI p0, vI p1, vI p2, vI p3, vI p4, vI v273, vI v279, vI v285, vI v291, vI v294, vI v297, vI v300, vI v303, vR b306, vR b343, vR b353, vR s_EMPTY, vR b598, vR b717, vR b730, .unset] [(.ref b730)]) s₁ (own_E m p0 p1 p2 p3 p4) := by
      intro t k
      refine pre798 t ?_
      refine XS.astore X786.here hx rfl (hb hby at_213) rfl rfl (l' := #[vI p0, vI p1, vI p2, vI p3, vI p4, vI v273, vI v279, vI v285, vI v291, vI v294, vI v297, vI v300, vI v303, vR b306, vR b343, vR b353, vR s_EMPTY, vR b598, vR b717, vR b730, .unset]) rfl ?_
      refine XS.aload X786.here hx rfl (hb hby at_215) rfl rfl ?_
      exact k
     obtain ⟨cq800, kq800, q800a, q800b, q800c⟩ := isOf hZ786 e786 Q786_0
     obtain ⟨_, _, ⟨T800, L800, k800, n800⟩, -, X800r, hS800r, hg800r, ⟨Lc800, hQ800, l800, y800, z800, hC800⟩, st800⟩ := X786.virtualBackS hx (y := (⟨own_GU, "effectiveType", "()Ljava/lang/String;"⟩ : MethodName)) (z := (⟨own_GU, "effectiveType", "()Ljava/lang/String;"⟩ : MethodName)) ho786 (mvT hZ786 (own_w hw 73 rfl)) (mvT hZ786 (own_w hw 74 rfl)) (notFace_of_selects (args := #[]) (mvT hZ786 (own_w hw 76 rfl))) (mvT hZ786 (own_w hw 76 rfl)) (mvT hZ786 (own_w hw 75 rfl)) (by decide) (backOfSH (W := 0) (rm10_n l Z ar0 hw [] b730 s_EMPTY h786 n0 Z786 Q786_0 Q786_4 Ef790 Ff791) hZ786 (own_w hw 77 rfl) (own_w hw 34 rfl) (by decide) (by decide) hEL CR786.1) q800a q800c (g := (mkF m 217 #[vI p0, vI p1, vI p2, vI p3, vI p4, vI v273, vI v279, vI v285, vI v291, vI v294, vI v297, vI v300, vI v303, vR b306, vR b343, vR b353, vR s_EMPTY, vR b598, vR b717, vR b730, .unset] [(.ref b730)])) rfl (by rw [hml]; rfl) (Steps.refl _) (argsL := []) (rest := []) (lenOf pd_12 rfl) rfl (by show 2 * 0 + _ ≤ _; exact Nat.le_of_eq rfl) (hb hby at_217) (fun _ _ => ⟨rfl, e786, (by decide : 26 + 2 ≤ _), (by decide : 266 + 8 ≤ _)⟩)
     dsimp only [Pt.U, Pt.locs, Pt.cells, Pt.slots] at X800r hS800r hg800r l800 y800 z800 st800 hQ800 hC800
     subst l800 y800 z800
     obtain ⟨X800, hS800, hZ800, ho800⟩ := rebS (s := s) (vm0 := T786.vm) (n1 := T786.heap.size) hS786 (by rw [e786]; first | exact hk786 | exact Nat.le_refl _) X800r hS800r hg800r hZ786 ho786
     obtain ⟨h800, e800⟩ : ∃ h, T800.heap = h := ⟨_, rfl⟩
     rw [e800] at hQ800
     obtain ⟨b800, b800b, kb800b, rfl, N800q, K800q, Ob800_0, Ob800_1, Ob800_2, Ob800b_0⟩ := hQ800
     have N800 := Fr.app N786 N800q
     have Z800 : n0 ≤ h800.size := Nat.le_trans Z786 K800q.1
     have K800 : Keep h0 h800 [] := K786.trans K800q (fun x hx => absurd hx List.not_mem_nil)
     have Sf801 : Sta Z h800 "java/lang/String" "COMPACT_STRINGS" "Z" (.int gc1) := own_sta_keep0 Sf787 K800q
     have Sf802 : Sta Z h800 "jdk/internal/util/Preconditions" "SIOOBE_FORMATTER" "Ljava/util/function/BiFunction;" gf3 := own_sta_keep0 Sf788 K800q
     have Sf803 : Sta Z h800 "java/util/Optional" "EMPTY" "Ljava/util/Optional;" (.ref s_EMPTY) := own_sta_keep0 Sf789 K800q
     have Ef804 : Exa Z h800 s_EMPTY "java/util/Optional" := (Ef790).keep K800q
     have Ff805 : Fld Z h800 s_EMPTY "java/util/Optional" "value" "Ljava/lang/Object;" .null := (Ff791).keep K800q List.not_mem_nil
     have Ef806 : Exa Z h800 b343 "java/lang/String" := (Ef792).keep K800q
     have Ff807 : Fld Z h800 b343 "java/lang/String" "value" "[B" (.ref b343b) := (Ff793).keep K800q List.not_mem_nil
     have Ff808 : Fld Z h800 b343 "java/lang/String" "coder" "B" (.int 0) := (Ff794).keep K800q List.not_mem_nil
     have Ef809 : Exa Z h800 b343b "[B" := (Ef795).keep K800q
     have Vf810 : Arv Z h800 b343b kb343b .byte (1 : Int32) ((([v294] : List Int32).map (fun c => c.toInt8.toInt32)).map Value.int) (.int 0) := (Vf796).keep K800q List.not_mem_nil
     have Ef811 : Exa Z h800 b730 own_GU := (Q786_0).keep K800q
     have Ff812 : Fld Z h800 b730 own_GU "text" "Ljava/lang/String;" (.ref a743) := (Q786_1).keep K800q List.not_mem_nil
     have Ff813 : Fld Z h800 b730 own_GU "host" "Ljava/lang/String;" (.ref a763) := (Q786_2).keep K800q List.not_mem_nil
     have Ff814 : Fld Z h800 b730 own_GU "port" "Ljava/util/Optional;" (.ref b717) := (Q786_3).keep K800q List.not_mem_nil
     have Ff815 : Fld Z h800 b730 own_GU "type" "Ljava/util/Optional;" (.ref s_EMPTY) := (Q786_4).keep K800q List.not_mem_nil
     have Ff816 : Fld Z h800 b730 own_GU "selector" "Ljava/lang/String;" (.ref b353) := (Q786_5).keep K800q List.not_mem_nil
     have Ff817 : Fld Z h800 b730 own_GU "search" "Ljava/util/Optional;" (.ref b598) := (Q786_6).keep K800q List.not_mem_nil
     have Ff818 : Fld Z h800 b730 own_GU "gopherPlus" "Ljava/util/Optional;" (.ref s_EMPTY) := (Q786_7).keep K800q List.not_mem_nil
     rw [e800] at hC800
     have CR800 := CR786.trans hC800
     have hk800 : T800.heap.size ≤ h800.size := by rw [e800]; exact Nat.le_refl _
     have pre819 : own_P p e below T800 (mkF m 220 #[vI p0, vI p1, vI p2, vI p3, vI p4, vI v273, vI v279, vI v285, vI v291, vI v294, vI v297, vI v300, vI v303, vR b306, vR b343, vR b353, vR s_EMPTY, vR b598, vR b717, vR b730, .unset] [(.ref b800)]) s₁ (own_E m p0 p1 p2 p3 p4) := fun t k => pre799 t (st800.trans k)
     have pre820 : own_P p e below T800 (mkF m 244 #[vI p0, vI p1, vI p2, vI p3, vI p4, vI v273, vI v279, vI v285, vI v291, vI v294, vI v297, vI v300, vI v303, vR b306, vR b343, vR b353, vR s_EMPTY, vR b598, vR b717, vR b730, vR b800] [(.ref b800)]) s₁ (own_E m p0 p1 p2 p3 p4) := by
      intro t k
      refine pre819 t ?_
      refine XS.astore X800.here hx rfl (hb hby at_220) rfl rfl (l' := #[vI p0, vI p1, vI p2, vI p3, vI p4, vI v273, vI v279, vI v285, vI v291, vI v294, vI v297, vI v300, vI v303, vR b306, vR b343, vR b353, vR s_EMPTY, vR b598, vR b717, vR b730, vR b800]) rfl ?_
      refine XS.aload X800.here hx rfl (hb hby at_222) rfl rfl ?_
      refine XS.ifnonnullYes X800.here hx rfl (pc0 := 224) (pc' := 229) rfl (hb hby at_224) rfl (by decide) (by decide) ?_
      refine XS.iload X800.here hx rfl (hb hby at_229) rfl ?_
      refine XS.ifYes X800.here hx rfl (pc0 := 231) (pc' := 242) rfl (hb hby at_231) rfl ((if0 _ _).trans (teq hc139_368).1) (by decide) (by decide) ?_
      refine XS.aload X800.here hx rfl (hb hby at_242) rfl rfl ?_
      exact k
     obtain ⟨cq821, kq821, q821a, q821b, q821c⟩ := isOf hZ800 e800 Ob800_0
     obtain ⟨_, _, ⟨T821, L821, k821, n821⟩, -, X821, ⟨Lc821, hQ821, l821, y821, z821⟩, st821⟩ := X800.virtualBack hx (y := (⟨"java/lang/String", "length", "()I"⟩ : MethodName)) (z := (⟨"java/lang/String", "length", "()I"⟩ : MethodName)) ho800 (mvT hZ800 (own_w hw 87 rfl)) (mvT hZ800 (own_w hw 88 rfl)) (notFace_of_selects (args := #[]) (mvT hZ800 (own_w hw 90 rfl))) (mvT hZ800 (own_w hw 90 rfl)) (mvT hZ800 (own_w hw 89 rfl)) (by decide) (StrChars.Road.lenW (W := 0) hZ800 (own_wordsLen hw) (kI := 4) (own_w hw 11 rfl) Ob800_0 Ob800_2 Ob800_1 Ob800b_0 (own_hcdG (cs := [49]) (by decide)) (own_up [49] (by decide)) Sf801 P5 (Nat.le_of_ble_eq_true rfl) (by decide) (by decide)) q821a q821c (g := (mkF m 244 #[vI p0, vI p1, vI p2, vI p3, vI p4, vI v273, vI v279, vI v285, vI v291, vI v294, vI v297, vI v300, vI v303, vR b306, vR b343, vR b353, vR s_EMPTY, vR b598, vR b717, vR b730, vR b800] [(.ref b800)])) rfl (by rw [hml]; rfl) (Steps.refl _) (argsL := []) (rest := []) (lenOf pd_13 rfl) rfl (by show 2 * 0 + _ ≤ _; exact Nat.le_of_eq rfl) (hb hby at_244) (fun _ _ => ⟨rfl, e800, (by decide : 28 + 0 ≤ _), (by decide : 274 + 0 ≤ _)⟩)
     dsimp only [Pt.U, Pt.locs, Pt.cells, Pt.slots] at X821 l821 y821 z821 st821 hQ821
     subst l821 y821 z821
     obtain ⟨rfl, rfl, e821⟩ := hQ821
     try rw [List.append_nil] at X821
     have pre822 : own_P p e below T821 (mkF m 247 #[vI p0, vI p1, vI p2, vI p3, vI p4, vI v273, vI v279, vI v285, vI v291, vI v294, vI v297, vI v300, vI v303, vR b306, vR b343, vR b353, vR s_EMPTY, vR b598, vR b717, vR b730, vR b800] [(.int (Int32.ofNat ([49] : List Int32).length))]) s₁ (own_E m p0 p1 p2 p3 p4) := fun t k => pre820 t (st821.trans k)
     have pre823 : own_P p e below T821 (mkF m 248 #[vI p0, vI p1, vI p2, vI p3, vI p4, vI v273, vI v279, vI v285, vI v291, vI v294, vI v297, vI v300, vI v303, vR b306, vR b343, vR b353, vR s_EMPTY, vR b598, vR b717, vR b730, vR b800] [(.int 1), (.int (Int32.ofNat ([49] : List Int32).length))]) s₁ (own_E m p0 p1 p2 p3 p4) := by
      intro t k
      refine pre822 t ?_
      refine XS.iconst X821.here hx rfl (hb hby at_247) ?_
      exact k
     have hk824 : (Int32.ofNat ([49] : List Int32).length) = (1 : Int32) := (by decide)
     have pre825 : own_P p e below T821 (mkF m 254 #[vI p0, vI p1, vI p2, vI p3, vI p4, vI v273, vI v279, vI v285, vI v291, vI v294, vI v297, vI v300, vI v303, vR b306, vR b343, vR b353, vR s_EMPTY, vR b598, vR b717, vR b730, vR b800] [(.int 0), (.ref b800)]) s₁ (own_E m p0 p1 p2 p3 p4) := by
      intro t k
      refine pre823 t ?_
      refine XS.icmpNo X821.here hx rfl (hb hby at_248) rfl (teq hk824).2 ?_
      refine XS.aload X821.here hx rfl (hb hby at_251) rfl rfl ?_
      refine XS.iconst X821.here hx rfl (hb hby at_253) ?_
      exact k
     obtain ⟨cq826, kq826, q826a, q826b, q826c⟩ := isOf hZ800 e821 Ob800_0
     obtain ⟨_, _, ⟨T826, L826, k826, n826⟩, -, X826, ⟨Lc826, hQ826, l826, y826, z826⟩, st826⟩ := X821.virtualBack hx (y := (⟨"java/lang/String", "charAt", "(I)C"⟩ : MethodName)) (z := (⟨"java/lang/String", "charAt", "(I)C"⟩ : MethodName)) ho800 (mvT hZ800 (own_w hw 97 rfl)) (mvT hZ800 (own_w hw 98 rfl)) (notFace_of_selects (args := #[]) (mvT hZ800 (own_w hw 100 rfl))) (mvT hZ800 (own_w hw 100 rfl)) (mvT hZ800 (own_w hw 99 rfl)) (by decide) (StrChars.Road.chN (W := 0) hZ800 (own_wordsChN hw) (kI := 4) (own_w hw 11 rfl) Ob800_0 Ob800_2 Ob800_1 Ob800b_0 (own_hcdG (cs := [49]) (by decide)) (own_up [49] (by decide)) Sf801 P5 Sf802 rG3 (Nat.le_of_ble_eq_true rfl) (i := 0) (by decide) (j := (0 : Int32)) rfl (by decide) (by decide)) q826a q826c (g := (mkF m 254 #[vI p0, vI p1, vI p2, vI p3, vI p4, vI v273, vI v279, vI v285, vI v291, vI v294, vI v297, vI v300, vI v303, vR b306, vR b343, vR b353, vR s_EMPTY, vR b598, vR b717, vR b730, vR b800] [(.int 0), (.ref b800)])) rfl (by rw [hml]; rfl) (Steps.refl _) (argsL := [(.int 0)]) (rest := []) (lenOf pd_14 rfl) rfl (by show 2 * 0 + _ ≤ _; exact Nat.le_of_eq rfl) (hb hby at_254) (fun _ _ => ⟨rfl, e821, (by decide : 28 + 0 ≤ _), (by decide : 274 + 0 ≤ _)⟩)
     dsimp only [Pt.U, Pt.locs, Pt.cells, Pt.slots] at X826 l826 y826 z826 st826 hQ826
     subst l826 y826 z826
     obtain ⟨rfl, rfl, e826⟩ := hQ826
     try rw [List.append_nil] at X826
     have pre827 : own_P p e below T826 (mkF m 257 #[vI p0, vI p1, vI p2, vI p3, vI p4, vI v273, vI v279, vI v285, vI v291, vI v294, vI v297, vI v300, vI v303, vR b306, vR b343, vR b353, vR s_EMPTY, vR b598, vR b717, vR b730, vR b800] [(.int (([49] : List Int32).getD 0 0))]) s₁ (own_E m p0 p1 p2 p3 p4) := fun t k => pre825 t (st826.trans k)
     have pre828 : own_P p e below T826 (mkF m 259 #[vI p0, vI p1, vI p2, vI p3, vI p4, vI v273, vI v279, vI v285, vI v291, vI v294, vI v297, vI v300, vI v303, vR b306, vR b343, vR b353, vR s_EMPTY, vR b598, vR b717, vR b730, vR b800] [(.int 49), (.int (([49] : List Int32).getD 0 0))]) s₁ (own_E m p0 p1 p2 p3 p4) := by
      intro t k
      refine pre827 t ?_
      refine XS.bipush X826.here hx rfl (hb hby at_257) ?_
      exact k
     have hk829 : (([49] : List Int32).getD 0 0) = (49 : Int32) := (by decide)
     obtain ⟨fs, hr, hrun, hended, hRW⟩ := X826.leaveW (s := s) (vm₁ := T800.vm) hS800 (by rw [e826]; first | exact hk800 | exact Nat.le_refl _) (v := some (.int 1)) (fun h => by rw [Bd.returns] at h; cases h)
     refine ⟨_, _, pre828 _ ?_, hrun, hended, _, _, rfl, ?_, hRW.1, hRW.2.1, hRW.2.2.1, hRW.2.2.2.mono (by decide) (by decide)⟩
     ·
      refine XS.icmpNo X826.here hx rfl (hb hby at_259) rfl (teq hk829).2 ?_
      refine XS.iconst X826.here hx rfl (hb hby at_262) ?_
      refine XS.goto X826.here hx rfl (pc0 := 263) (pc' := 267) rfl (hb hby at_263) (by decide) (by decide) ?_
      exact retN X826 hx (t := .boolean) Bd.returns (by simp) (hb hby at_267) hr
     ·
      show Q0 Z p0 p1 p2 p3 p4 gc1 gf3 s_EMPTY h0 n0 _ T826.heap _
      rw [e826]
      exact ⟨rfl, N800⟩
  ·
   have pre830 : ∀ t, Steps p.tables e below (T353.setTop (mkF m 144 #[vI p0, vI p1, vI p2, vI p3, vI p4, vI v273, vI v279, vI v285, vI v291, vI v294, vI v297, vI v300, vI v303, vR b306, vR b343, vR b353, .unset, .unset, .unset, .unset, .unset] [(.ref b343)])) t → Steps p.tables e below (s₁.setTop (own_E m p0 p1 p2 p3 p4)) t := by
    intro t k
    refine pre367 t ?_
    refine XS.ifNo X353.here hx rfl (hb hby at_139) rfl ((if0 _ _).trans (feq hc139_368).1) ?_
    refine XS.aload X353.here hx rfl (hb hby at_142) rfl rfl ?_
    exact k
   obtain ⟨_, _, ⟨T831, L831, k831, n831⟩, -, X831, ⟨Lc831, hQ831, l831, y831, z831⟩, st831⟩ := Jvm.LawKit.callS X353 hx (y := (⟨"java/util/Optional", "of", "(Ljava/lang/Object;)Ljava/util/Optional;"⟩ : MethodName)) hown (mvT hZ (own_w hw 135 rfl)) (mvT hZ (own_w hw 136 rfl)) (mvT hZ (own_w hw 29 rfl)) (mvT hZ (own_w hw 137 rfl)) (by decide) (backOf (W := 0) (rm24 l Z ar0 hw [] b343 h353 n0 Z353) hZ (own_w hw 137 rfl) (own_w hw 29 rfl) (by decide) (by decide)) (g := (mkF m 144 #[vI p0, vI p1, vI p2, vI p3, vI p4, vI v273, vI v279, vI v285, vI v291, vI v294, vI v297, vI v300, vI v303, vR b306, vR b343, vR b353, .unset, .unset, .unset, .unset, .unset] [(.ref b343)])) rfl (by rw [hml]; rfl) (argsL := [(.ref b343)]) (rest := []) (lenOf pd_10 rfl) rfl (by show 2 * 0 + _ ≤ _; exact Nat.le_of_eq rfl) (hb hby at_144) (fun _ _ => ⟨rfl, e353, (by decide : 5 + 1 ≤ _), (by decide : 13 + 1 ≤ _)⟩)
   dsimp only [Pt.U, Pt.locs, Pt.cells, Pt.slots] at X831 l831 y831 z831 st831 hQ831
   subst l831 y831 z831
   obtain ⟨h831, e831⟩ : ∃ h, T831.heap = h := ⟨_, rfl⟩
   rw [e831] at hQ831
   obtain ⟨b831, rfl, N831q, K831q, y_b831, Ob831_0, Ob831_1⟩ := hQ831
   have N831 := Fr.app N353 N831q
   have ne_s_EMPTY_b831 : s_EMPTY ≠ b831 := Nat.ne_of_lt (Nat.lt_of_lt_of_le (Ef357).lt y_b831)
   have ne_b343_b831 : b343 ≠ b831 := Nat.ne_of_lt (Nat.lt_of_lt_of_le (Ef361).lt y_b831)
   have ne_b343b_b831 : b343b ≠ b831 := Nat.ne_of_lt (Nat.lt_of_lt_of_le (Ef364).lt y_b831)
   have g_b831 : n0 ≤ b831 := Nat.le_trans Z353 y_b831
   have sz_b831 : h0.size ≤ b831 := Nat.le_trans K353.1 y_b831
   have Z831 : n0 ≤ h831.size := Nat.le_trans Z353 K831q.1
   have hk831 := Nat.le_trans hk353 K831q.1
   have K831 : Keep h0 h831 [] := K353.trans K831q (fun x hx => absurd hx List.not_mem_nil)
   have CR831 := CR353.trans (CHr.keep K831q sf0 CR353.1)
   have Sf832 : Sta Z h831 "java/lang/String" "COMPACT_STRINGS" "Z" (.int gc1) := own_sta_keep0 Sf354 K831q
   have Sf833 : Sta Z h831 "jdk/internal/util/Preconditions" "SIOOBE_FORMATTER" "Ljava/util/function/BiFunction;" gf3 := own_sta_keep0 Sf355 K831q
   have Sf834 : Sta Z h831 "java/util/Optional" "EMPTY" "Ljava/util/Optional;" (.ref s_EMPTY) := own_sta_keep0 Sf356 K831q
   have Ef835 : Exa Z h831 s_EMPTY "java/util/Optional" := (Ef357).keep K831q
   have Ff836 : Fld Z h831 s_EMPTY "java/util/Optional" "value" "Ljava/lang/Object;" .null := (Ff358).keep K831q List.not_mem_nil
   have Ef837 : Exa Z h831 b343 "java/lang/String" := (Ef361).keep K831q
   have Ff838 : Fld Z h831 b343 "java/lang/String" "value" "[B" (.ref b343b) := (Ff362).keep K831q List.not_mem_nil
   have Ff839 : Fld Z h831 b343 "java/lang/String" "coder" "B" (.int 0) := (Ff363).keep K831q List.not_mem_nil
   have Ef840 : Exa Z h831 b343b "[B" := (Ef364).keep K831q
   have Vf841 : Arv Z h831 b343b kb343b .byte (1 : Int32) ((([v294] : List Int32).map (fun c => c.toInt8.toInt32)).map Value.int) (.int 0) := (Vf365).keep K831q List.not_mem_nil
   have pre842 : own_P p e below T831 (mkF m 147 #[vI p0, vI p1, vI p2, vI p3, vI p4, vI v273, vI v279, vI v285, vI v291, vI v294, vI v297, vI v300, vI v303, vR b306, vR b343, vR b353, .unset, .unset, .unset, .unset, .unset] [(.ref b831)]) s₁ (own_E m p0 p1 p2 p3 p4) := fun t k => pre830 t (st831 t k)
   have pre843 : own_P p e below T831 (mkF m 157 #[vI p0, vI p1, vI p2, vI p3, vI p4, vI v273, vI v279, vI v285, vI v291, vI v294, vI v297, vI v300, vI v303, vR b306, vR b343, vR b353, vR b831, .unset, .unset, .unset, .unset] [(.int v285)]) s₁ (own_E m p0 p1 p2 p3 p4) := by
    intro t k
    refine pre842 t ?_
    refine XS.goto X831.here hx rfl (pc0 := 147) (pc' := 153) rfl (hb hby at_147) (by decide) (by decide) ?_
    refine XS.astore X831.here hx rfl (hb hby at_153) rfl rfl (l' := #[vI p0, vI p1, vI p2, vI p3, vI p4, vI v273, vI v279, vI v285, vI v291, vI v294, vI v297, vI v300, vI v303, vR b306, vR b343, vR b353, vR b831, .unset, .unset, .unset, .unset]) rfl ?_
    refine XS.iload X831.here hx rfl (hb hby at_155) rfl ?_
    exact k
   by_cases hc157_844 : v285 = (0 : Int32)
   ·
    have pre845 : ∀ t, Steps p.tables e below (T831.setTop (mkF m 168 #[vI p0, vI p1, vI p2, vI p3, vI p4, vI v273, vI v279, vI v285, vI v291, vI v294, vI v297, vI v300, vI v303, vR b306, vR b343, vR b353, vR b831, .unset, .unset, .unset, .unset] [])) t → Steps p.tables e below (s₁.setTop (own_E m p0 p1 p2 p3 p4)) t := by
     intro t k
     refine pre843 t ?_
     refine XS.ifYes X831.here hx rfl (pc0 := 157) (pc' := 168) rfl (hb hby at_157) rfl ((if0 _ _).trans (teq hc157_844).1) (by decide) (by decide) ?_
     exact k
    obtain ⟨_, _, ⟨T846, L846, k846, n846⟩, -, X846, ⟨Lc846, hQ846, l846, y846, z846⟩, st846⟩ := Jvm.LawKit.callS X831 hx (y := (⟨"java/util/Optional", "empty", "()Ljava/util/Optional;"⟩ : MethodName)) hown (mvT hZ (own_w hw 27 rfl)) (mvT hZ (own_w hw 28 rfl)) (mvT hZ (own_w hw 29 rfl)) (mvT hZ (own_w hw 30 rfl)) (by decide) (backOf (W := 0) (rm6 l Z ar0 hw [] s_EMPTY h831 n0 Z831 Sf834) hZ (own_w hw 30 rfl) (own_w hw 29 rfl) (by decide) (by decide)) (g := (mkF m 168 #[vI p0, vI p1, vI p2, vI p3, vI p4, vI v273, vI v279, vI v285, vI v291, vI v294, vI v297, vI v300, vI v303, vR b306, vR b343, vR b353, vR b831, .unset, .unset, .unset, .unset] [])) rfl (by rw [hml]; rfl) (argsL := []) (rest := []) (lenOf pd_9 rfl) rfl (by show 2 * 0 + _ ≤ _; exact Nat.le_of_eq rfl) (hb hby at_168) (fun _ _ => ⟨rfl, e831, (by decide : 6 + 0 ≤ _), (by decide : 14 + 0 ≤ _)⟩)
    dsimp only [Pt.U, Pt.locs, Pt.cells, Pt.slots] at X846 l846 y846 z846 st846 hQ846
    subst l846 y846 z846
    obtain ⟨rfl, N846q, e846⟩ := hQ846
    have N846 := Fr.app N831 N846q
    have pre847 : own_P p e below T846 (mkF m 171 #[vI p0, vI p1, vI p2, vI p3, vI p4, vI v273, vI v279, vI v285, vI v291, vI v294, vI v297, vI v300, vI v303, vR b306, vR b343, vR b353, vR b831, .unset, .unset, .unset, .unset] [(.ref s_EMPTY)]) s₁ (own_E m p0 p1 p2 p3 p4) := fun t k => pre845 t (st846 t k)
    have pre848 : own_P p e below T846 (mkF m 175 #[vI p0, vI p1, vI p2, vI p3, vI p4, vI v273, vI v279, vI v285, vI v291, vI v294, vI v297, vI v300, vI v303, vR b306, vR b343, vR b353, vR b831, vR s_EMPTY, .unset, .unset, .unset] [(.int v291)]) s₁ (own_E m p0 p1 p2 p3 p4) := by
     intro t k
     refine pre847 t ?_
     refine XS.astore X846.here hx rfl (hb hby at_171) rfl rfl (l' := #[vI p0, vI p1, vI p2, vI p3, vI p4, vI v273, vI v279, vI v285, vI v291, vI v294, vI v297, vI v300, vI v303, vR b306, vR b343, vR b353, vR b831, vR s_EMPTY, .unset, .unset, .unset]) rfl ?_
     refine XS.iload X846.here hx rfl (hb hby at_173) rfl ?_
     exact k
    by_cases hc175_849 : v291 = (0 : Int32)
    ·
     have pre850 : ∀ t, Steps p.tables e below (T846.setTop (mkF m 186 #[vI p0, vI p1, vI p2, vI p3, vI p4, vI v273, vI v279, vI v285, vI v291, vI v294, vI v297, vI v300, vI v303, vR b306, vR b343, vR b353, vR b831, vR s_EMPTY, .unset, .unset, .unset] [])) t → Steps p.tables e below (s₁.setTop (own_E m p0 p1 p2 p3 p4)) t := by
      intro t k
      refine pre848 t ?_
      refine XS.ifYes X846.here hx rfl (pc0 := 175) (pc' := 186) rfl (hb hby at_175) rfl ((if0 _ _).trans (teq hc175_849).1) (by decide) (by decide) ?_
      exact k
     obtain ⟨_, _, ⟨T851, L851, k851, n851⟩, -, X851, ⟨Lc851, hQ851, l851, y851, z851⟩, st851⟩ := Jvm.LawKit.callS X846 hx (y := (⟨"java/util/Optional", "empty", "()Ljava/util/Optional;"⟩ : MethodName)) hown (mvT hZ (own_w hw 27 rfl)) (mvT hZ (own_w hw 28 rfl)) (mvT hZ (own_w hw 29 rfl)) (mvT hZ (own_w hw 30 rfl)) (by decide) (backOf (W := 0) (rm6 l Z ar0 hw [] s_EMPTY h831 n0 Z831 Sf834) hZ (own_w hw 30 rfl) (own_w hw 29 rfl) (by decide) (by decide)) (g := (mkF m 186 #[vI p0, vI p1, vI p2, vI p3, vI p4, vI v273, vI v279, vI v285, vI v291, vI v294, vI v297, vI v300, vI v303, vR b306, vR b343, vR b353, vR b831, vR s_EMPTY, .unset, .unset, .unset] [])) rfl (by rw [hml]; rfl) (argsL := []) (rest := []) (lenOf pd_9 rfl) rfl (by show 2 * 0 + _ ≤ _; exact Nat.le_of_eq rfl) (hb hby at_186) (fun _ _ => ⟨rfl, e846, (by decide : 6 + 0 ≤ _), (by decide : 14 + 0 ≤ _)⟩)
     dsimp only [Pt.U, Pt.locs, Pt.cells, Pt.slots] at X851 l851 y851 z851 st851 hQ851
     subst l851 y851 z851
     obtain ⟨rfl, N851q, e851⟩ := hQ851
     have N851 := Fr.app N846 N851q
     have pre852 : own_P p e below T851 (mkF m 189 #[vI p0, vI p1, vI p2, vI p3, vI p4, vI v273, vI v279, vI v285, vI v291, vI v294, vI v297, vI v300, vI v303, vR b306, vR b343, vR b353, vR b831, vR s_EMPTY, .unset, .unset, .unset] [(.ref s_EMPTY)]) s₁ (own_E m p0 p1 p2 p3 p4) := fun t k => pre850 t (st851 t k)
     have pre853 : own_P p e below T851 (mkF m 191 #[vI p0, vI p1, vI p2, vI p3, vI p4, vI v273, vI v279, vI v285, vI v291, vI v294, vI v297, vI v300, vI v303, vR b306, vR b343, vR b353, vR b831, vR s_EMPTY, vR s_EMPTY, .unset, .unset] []) s₁ (own_E m p0 p1 p2 p3 p4) := by
      intro t k
      refine pre852 t ?_
      refine XS.astore X851.here hx rfl (hb hby at_189) rfl rfl (l' := #[vI p0, vI p1, vI p2, vI p3, vI p4, vI v273, vI v279, vI v285, vI v291, vI v294, vI v297, vI v300, vI v303, vR b306, vR b343, vR b353, vR b831, vR s_EMPTY, vR s_EMPTY, .unset, .unset]) rfl ?_
      exact k
     obtain ⟨T854, h854, X854, e854, E854, A854, D854, -, st854⟩ := newO X851 hx hZ hown (own_w hw 32 rfl) (own_w hw 33 rfl) (own_w hw 34 rfl) e851 (g := (mkF m 191 #[vI p0, vI p1, vI p2, vI p3, vI p4, vI v273, vI v279, vI v285, vI v291, vI v294, vI v297, vI v300, vI v303, vR b306, vR b343, vR b353, vR b831, vR s_EMPTY, vR s_EMPTY, .unset, .unset] [])) rfl (hb hby at_191) (by decide) (by decide)
     obtain ⟨b854, g854⟩ : ∃ z, z = h831.size := ⟨_, rfl⟩
     rw [← g854] at A854 D854 st854
     have ne_s_EMPTY_b854 : s_EMPTY ≠ b854 := Nat.ne_of_lt (Nat.lt_of_lt_of_le (Ef835).lt (Nat.le_of_eq g854.symm))
     have ne_b343_b854 : b343 ≠ b854 := Nat.ne_of_lt (Nat.lt_of_lt_of_le (Ef837).lt (Nat.le_of_eq g854.symm))
     have ne_b343b_b854 : b343b ≠ b854 := Nat.ne_of_lt (Nat.lt_of_lt_of_le (Ef840).lt (Nat.le_of_eq g854.symm))
     have ne_b831_b854 : b831 ≠ b854 := Nat.ne_of_lt (Nat.lt_of_lt_of_le (Ob831_0).lt (Nat.le_of_eq g854.symm))
     have g_b854 : n0 ≤ b854 := Nat.le_trans Z831 (Nat.le_of_eq g854.symm)
     have sz_b854 : h0.size ≤ b854 := Nat.le_trans K831.1 (Nat.le_of_eq g854.symm)
     have Z854 : n0 ≤ h854.size := Nat.le_trans Z831 E854.1
     have K854 : Keep h0 h854 [] := K831.ext E854
     have hk854 := Nat.le_trans hk831 E854.1
     have CR854 := CR831.trans (CHr.ext E854 CR831.1)
     have Sf855 : Sta Z h854 "java/lang/String" "COMPACT_STRINGS" "Z" (.int gc1) := (Sf832).ext E854
     have Sf856 : Sta Z h854 "jdk/internal/util/Preconditions" "SIOOBE_FORMATTER" "Ljava/util/function/BiFunction;" gf3 := (Sf833).ext E854
     have Sf857 : Sta Z h854 "java/util/Optional" "EMPTY" "Ljava/util/Optional;" (.ref s_EMPTY) := (Sf834).ext E854
     have Ef858 : Exa Z h854 s_EMPTY "java/util/Optional" := (Ef835).ext E854
     have Ff859 : Fld Z h854 s_EMPTY "java/util/Optional" "value" "Ljava/lang/Object;" .null := (Ff836).ext E854
     have Ef860 : Exa Z h854 b343 "java/lang/String" := (Ef837).ext E854
     have Ff861 : Fld Z h854 b343 "java/lang/String" "value" "[B" (.ref b343b) := (Ff838).ext E854
     have Ff862 : Fld Z h854 b343 "java/lang/String" "coder" "B" (.int 0) := (Ff839).ext E854
     have Ef863 : Exa Z h854 b343b "[B" := (Ef840).ext E854
     have Vf864 : Arv Z h854 b343b kb343b .byte (1 : Int32) ((([v294] : List Int32).map (fun c => c.toInt8.toInt32)).map Value.int) (.int 0) := (Vf841).ext E854
     have Ef865 : Exa Z h854 b831 "java/util/Optional" := (Ob831_0).ext E854
     have Ff866 : Fld Z h854 b831 "java/util/Optional" "value" "Ljava/lang/Object;" (.ref b343) := (Ob831_1).ext E854
     have Ftext_b854 : Fld Z h854 b854 own_GU "text" "Ljava/lang/String;" .null := D854 (Or.inr (own_w hw 60 rfl)) (ty := (.object "java/lang/String")) (by decide)
     have Fhost_b854 : Fld Z h854 b854 own_GU "host" "Ljava/lang/String;" .null := D854 (Or.inr (own_w hw 62 rfl)) (ty := (.object "java/lang/String")) (by decide)
     have Fport_b854 : Fld Z h854 b854 own_GU "port" "Ljava/util/Optional;" .null := D854 (Or.inr (own_w hw 64 rfl)) (ty := (.object "java/util/Optional")) (by decide)
     have Ftype_b854 : Fld Z h854 b854 own_GU "type" "Ljava/util/Optional;" .null := D854 (Or.inr (own_w hw 66 rfl)) (ty := (.object "java/util/Optional")) (by decide)
     have Fselector_b854 : Fld Z h854 b854 own_GU "selector" "Ljava/lang/String;" .null := D854 (Or.inr (own_w hw 68 rfl)) (ty := (.object "java/lang/String")) (by decide)
     have Fsearch_b854 : Fld Z h854 b854 own_GU "search" "Ljava/util/Optional;" .null := D854 (Or.inr (own_w hw 70 rfl)) (ty := (.object "java/util/Optional")) (by decide)
     have FgopherPlus_b854 : Fld Z h854 b854 own_GU "gopherPlus" "Ljava/util/Optional;" .null := D854 (Or.inr (own_w hw 72 rfl)) (ty := (.object "java/util/Optional")) (by decide)
     have pre867 : own_P p e below T854 (mkF m 194 #[vI p0, vI p1, vI p2, vI p3, vI p4, vI v273, vI v279, vI v285, vI v291, vI v294, vI v297, vI v300, vI v303, vR b306, vR b343, vR b353, vR b831, vR s_EMPTY, vR s_EMPTY, .unset, .unset] [(.ref b854)]) s₁ (own_E m p0 p1 p2 p3 p4) := fun t k => pre853 t (st854 t k)
     have pre868 : own_P p e below T854 (mkF m 195 #[vI p0, vI p1, vI p2, vI p3, vI p4, vI v273, vI v279, vI v285, vI v291, vI v294, vI v297, vI v300, vI v303, vR b306, vR b343, vR b353, vR b831, vR s_EMPTY, vR s_EMPTY, .unset, .unset] [(.ref b854), (.ref b854)]) s₁ (own_E m p0 p1 p2 p3 p4) := by
      intro t k
      refine pre867 t ?_
      refine XS.dup X854.here hx rfl (hb hby at_194) rfl rfl ?_
      exact k
     obtain ⟨a869, T869, h869, k869, X869, e869, E869, hS869, hk869, hZ869, ho869, hC869, -, st869⟩ := ldcOH (s := s) (vm0 := s.vm) X854 hx hZ hown (own_w hw 35 rfl) (own_strW hw) e854 hS0 hk854 hEL CR854.1 (g := (mkF m 195 #[vI p0, vI p1, vI p2, vI p3, vI p4, vI v273, vI v279, vI v285, vI v291, vI v294, vI v297, vI v300, vI v303, vR b306, vR b343, vR b353, vR b831, vR s_EMPTY, vR s_EMPTY, .unset, .unset] [(.ref b854), (.ref b854)])) rfl (hb hby at_195) (n := 44) (by decide) (by decide) (by decide) (by decide)
     have CR869 := CR854.trans hC869
     have Z869 : n0 ≤ h869.size := Nat.le_trans Z854 E869.1
     have K869 : Keep h0 h869 [] := K854.ext E869
     have Sf870 : Sta Z h869 "java/lang/String" "COMPACT_STRINGS" "Z" (.int gc1) := (Sf855).ext E869
     have Sf871 : Sta Z h869 "jdk/internal/util/Preconditions" "SIOOBE_FORMATTER" "Ljava/util/function/BiFunction;" gf3 := (Sf856).ext E869
     have Sf872 : Sta Z h869 "java/util/Optional" "EMPTY" "Ljava/util/Optional;" (.ref s_EMPTY) := (Sf857).ext E869
     have Ef873 : Exa Z h869 s_EMPTY "java/util/Optional" := (Ef858).ext E869
     have Ff874 : Fld Z h869 s_EMPTY "java/util/Optional" "value" "Ljava/lang/Object;" .null := (Ff859).ext E869
     have Ef875 : Exa Z h869 b343 "java/lang/String" := (Ef860).ext E869
     have Ff876 : Fld Z h869 b343 "java/lang/String" "value" "[B" (.ref b343b) := (Ff861).ext E869
     have Ff877 : Fld Z h869 b343 "java/lang/String" "coder" "B" (.int 0) := (Ff862).ext E869
     have Ef878 : Exa Z h869 b343b "[B" := (Ef863).ext E869
     have Vf879 : Arv Z h869 b343b kb343b .byte (1 : Int32) ((([v294] : List Int32).map (fun c => c.toInt8.toInt32)).map Value.int) (.int 0) := (Vf864).ext E869
     have Ef880 : Exa Z h869 b831 "java/util/Optional" := (Ef865).ext E869
     have Ff881 : Fld Z h869 b831 "java/util/Optional" "value" "Ljava/lang/Object;" (.ref b343) := (Ff866).ext E869
     have Ef882 : Exa Z h869 b854 own_GU := (A854).ext E869
     have Ff883 : Fld Z h869 b854 own_GU "text" "Ljava/lang/String;" .null := (Ftext_b854).ext E869
     have Ff884 : Fld Z h869 b854 own_GU "host" "Ljava/lang/String;" .null := (Fhost_b854).ext E869
     have Ff885 : Fld Z h869 b854 own_GU "port" "Ljava/util/Optional;" .null := (Fport_b854).ext E869
     have Ff886 : Fld Z h869 b854 own_GU "type" "Ljava/util/Optional;" .null := (Ftype_b854).ext E869
     have Ff887 : Fld Z h869 b854 own_GU "selector" "Ljava/lang/String;" .null := (Fselector_b854).ext E869
     have Ff888 : Fld Z h869 b854 own_GU "search" "Ljava/util/Optional;" .null := (Fsearch_b854).ext E869
     have Ff889 : Fld Z h869 b854 own_GU "gopherPlus" "Ljava/util/Optional;" .null := (FgopherPlus_b854).ext E869
     have pre890 : own_P p e below T869 (mkF m 197 #[vI p0, vI p1, vI p2, vI p3, vI p4, vI v273, vI v279, vI v285, vI v291, vI v294, vI v297, vI v300, vI v303, vR b306, vR b343, vR b353, vR b831, vR s_EMPTY, vR s_EMPTY, .unset, .unset] [(.ref a869), (.ref b854), (.ref b854)]) s₁ (own_E m p0 p1 p2 p3 p4) := fun t k => pre868 t (st869 t k)
     obtain ⟨a891, T891, h891, k891, X891, e891, E891, hS891, hk891, hZ891, ho891, hC891, -, st891⟩ := ldcOH (s := s) (vm0 := T869.vm) X869 hx hZ869 ho869 (own_w hw 38 rfl) (own_strW hw) e869 hS869 hk869 hEL CR869.1 (g := (mkF m 197 #[vI p0, vI p1, vI p2, vI p3, vI p4, vI v273, vI v279, vI v285, vI v291, vI v294, vI v297, vI v300, vI v303, vR b306, vR b343, vR b353, vR b831, vR s_EMPTY, vR s_EMPTY, .unset, .unset] [(.ref a869), (.ref b854), (.ref b854)])) rfl (hb hby at_197) (n := 4) (by decide) (by decide) (by decide) (by decide)
     have CR891 := CR869.trans hC891
     have Z891 : n0 ≤ h891.size := Nat.le_trans Z869 E891.1
     have K891 : Keep h0 h891 [] := K869.ext E891
     have Sf892 : Sta Z h891 "java/lang/String" "COMPACT_STRINGS" "Z" (.int gc1) := (Sf870).ext E891
     have Sf893 : Sta Z h891 "jdk/internal/util/Preconditions" "SIOOBE_FORMATTER" "Ljava/util/function/BiFunction;" gf3 := (Sf871).ext E891
     have Sf894 : Sta Z h891 "java/util/Optional" "EMPTY" "Ljava/util/Optional;" (.ref s_EMPTY) := (Sf872).ext E891
     have Ef895 : Exa Z h891 s_EMPTY "java/util/Optional" := (Ef873).ext E891
     have Ff896 : Fld Z h891 s_EMPTY "java/util/Optional" "value" "Ljava/lang/Object;" .null := (Ff874).ext E891
     have Ef897 : Exa Z h891 b343 "java/lang/String" := (Ef875).ext E891
     have Ff898 : Fld Z h891 b343 "java/lang/String" "value" "[B" (.ref b343b) := (Ff876).ext E891
     have Ff899 : Fld Z h891 b343 "java/lang/String" "coder" "B" (.int 0) := (Ff877).ext E891
     have Ef900 : Exa Z h891 b343b "[B" := (Ef878).ext E891
     have Vf901 : Arv Z h891 b343b kb343b .byte (1 : Int32) ((([v294] : List Int32).map (fun c => c.toInt8.toInt32)).map Value.int) (.int 0) := (Vf879).ext E891
     have Ef902 : Exa Z h891 b831 "java/util/Optional" := (Ef880).ext E891
     have Ff903 : Fld Z h891 b831 "java/util/Optional" "value" "Ljava/lang/Object;" (.ref b343) := (Ff881).ext E891
     have Ef904 : Exa Z h891 b854 own_GU := (Ef882).ext E891
     have Ff905 : Fld Z h891 b854 own_GU "text" "Ljava/lang/String;" .null := (Ff883).ext E891
     have Ff906 : Fld Z h891 b854 own_GU "host" "Ljava/lang/String;" .null := (Ff884).ext E891
     have Ff907 : Fld Z h891 b854 own_GU "port" "Ljava/util/Optional;" .null := (Ff885).ext E891
     have Ff908 : Fld Z h891 b854 own_GU "type" "Ljava/util/Optional;" .null := (Ff886).ext E891
     have Ff909 : Fld Z h891 b854 own_GU "selector" "Ljava/lang/String;" .null := (Ff887).ext E891
     have Ff910 : Fld Z h891 b854 own_GU "search" "Ljava/util/Optional;" .null := (Ff888).ext E891
     have Ff911 : Fld Z h891 b854 own_GU "gopherPlus" "Ljava/util/Optional;" .null := (Ff889).ext E891
     have pre912 : own_P p e below T891 (mkF m 199 #[vI p0, vI p1, vI p2, vI p3, vI p4, vI v273, vI v279, vI v285, vI v291, vI v294, vI v297, vI v300, vI v303, vR b306, vR b343, vR b353, vR b831, vR s_EMPTY, vR s_EMPTY, .unset, .unset] [(.ref a891), (.ref a869), (.ref b854), (.ref b854)]) s₁ (own_E m p0 p1 p2 p3 p4) := fun t k => pre890 t (st891 t k)
     have pre913 : own_P p e below T891 (mkF m 207 #[vI p0, vI p1, vI p2, vI p3, vI p4, vI v273, vI v279, vI v285, vI v291, vI v294, vI v297, vI v300, vI v303, vR b306, vR b343, vR b353, vR b831, vR s_EMPTY, vR s_EMPTY, .unset, .unset] [(.ref s_EMPTY), (.ref b353), (.ref b831), (.ref s_EMPTY), (.ref a891), (.ref a869), (.ref b854), (.ref b854)]) s₁ (own_E m p0 p1 p2 p3 p4) := by
      intro t k
      refine pre912 t ?_
      refine XS.aload X891.here hx rfl (hb hby at_199) rfl rfl ?_
      refine XS.aload X891.here hx rfl (hb hby at_201) rfl rfl ?_
      refine XS.aload X891.here hx rfl (hb hby at_203) rfl rfl ?_
      refine XS.aload X891.here hx rfl (hb hby at_205) rfl rfl ?_
      exact k
     obtain ⟨_, _, ⟨T914, L914, k914, n914⟩, -, X914, ⟨Lc914, hQ914, l914, y914, z914⟩, st914⟩ := Jvm.LawKit.callS X891 hx (y := (⟨"java/util/Optional", "empty", "()Ljava/util/Optional;"⟩ : MethodName)) ho891 (mvT hZ891 (own_w hw 27 rfl)) (mvT hZ891 (own_w hw 28 rfl)) (mvT hZ891 (own_w hw 29 rfl)) (mvT hZ891 (own_w hw 30 rfl)) (by decide) (backOf (W := 8) (rm6 l Z ar0 hw [] s_EMPTY h891 n0 Z891 Sf894) hZ891 (own_w hw 30 rfl) (own_w hw 29 rfl) (by decide) (by decide)) (g := (mkF m 207 #[vI p0, vI p1, vI p2, vI p3, vI p4, vI v273, vI v279, vI v285, vI v291, vI v294, vI v297, vI v300, vI v303, vR b306, vR b343, vR b353, vR b831, vR s_EMPTY, vR s_EMPTY, .unset, .unset] [(.ref s_EMPTY), (.ref b353), (.ref b831), (.ref s_EMPTY), (.ref a891), (.ref a869), (.ref b854), (.ref b854)])) rfl (by rw [hml]; rfl) (argsL := []) (rest := [(.ref s_EMPTY), (.ref b353), (.ref b831), (.ref s_EMPTY), (.ref a891), (.ref a869), (.ref b854), (.ref b854)]) (lenOf pd_9 rfl) rfl (by show 2 * 0 + _ ≤ _; exact Nat.le_of_eq rfl) (hb hby at_207) (fun _ _ => ⟨rfl, e891, (by decide : 11 + 0 ≤ _), (by decide : 77 + 0 ≤ _)⟩)
     dsimp only [Pt.U, Pt.locs, Pt.cells, Pt.slots] at X914 l914 y914 z914 st914 hQ914
     subst l914 y914 z914
     obtain ⟨rfl, N914q, e914⟩ := hQ914
     have N914 := Fr.app N851 N914q
     have pre915 : own_P p e below T914 (mkF m 210 #[vI p0, vI p1, vI p2, vI p3, vI p4, vI v273, vI v279, vI v285, vI v291, vI v294, vI v297, vI v300, vI v303, vR b306, vR b343, vR b353, vR b831, vR s_EMPTY, vR s_EMPTY, .unset, .unset] [(.ref s_EMPTY), (.ref s_EMPTY), (.ref b353), (.ref b831), (.ref s_EMPTY), (.ref a891), (.ref a869), (.ref b854), (.ref b854)]) s₁ (own_E m p0 p1 p2 p3 p4) := fun t k => pre913 t (st914 t k)
     obtain ⟨_, _, ⟨T916, L916, k916, n916⟩, -, X916r, hS916r, hg916r, ⟨Lc916, hQ916, l916, y916, z916, hC916⟩, st916⟩ := X914.specialBackS hx (y := (⟨own_GU, "<init>", "(Ljava/lang/String;Ljava/lang/String;Ljava/util/Optional;Ljava/util/Optional;Ljava/lang/String;Ljava/util/Optional;Ljava/util/Optional;)V"⟩ : MethodName)) rfl ho891 (mvT hZ891 (own_w hw 39 rfl)) (mvT hZ891 (own_w hw 40 rfl)) (mvT hZ891 (own_w hw 41 rfl)) (by decide) (backOfSH (W := 1) (rm7 l Z ar0 hw [] b854 a869 a891 s_EMPTY b831 b353 s_EMPTY s_EMPTY .null .null .null .null .null .null .null h891 n0 Z891 Ef904 Ff905 Ff906 Ff907 Ff908 Ff909 Ff910 Ff911 g_b854) hZ891 (own_w hw 41 rfl) (own_w hw 34 rfl) (by decide) (by decide) hEL CR891.1) (g := (mkF m 210 #[vI p0, vI p1, vI p2, vI p3, vI p4, vI v273, vI v279, vI v285, vI v291, vI v294, vI v297, vI v300, vI v303, vR b306, vR b343, vR b353, vR b831, vR s_EMPTY, vR s_EMPTY, .unset, .unset] [(.ref s_EMPTY), (.ref s_EMPTY), (.ref b353), (.ref b831), (.ref s_EMPTY), (.ref a891), (.ref a869), (.ref b854), (.ref b854)])) rfl (by rw [hml]; rfl) (Steps.refl _) (a := b854) (argsL := [(.ref a869), (.ref a891), (.ref s_EMPTY), (.ref b831), (.ref b353), (.ref s_EMPTY), (.ref s_EMPTY)]) (rest := [(.ref b854)]) (lenOf pd_11 rfl) rfl (by show 2 * 0 + _ ≤ _; exact Nat.le_of_eq rfl) (hb hby at_210) (fun _ _ => ⟨rfl, e914, (by decide : 11 + 14 ≤ _), (by decide : 77 + 188 ≤ _)⟩)
     dsimp only [Pt.U, Pt.locs, Pt.cells, Pt.slots] at X916r hS916r hg916r l916 y916 z916 st916 hQ916 hC916
     subst l916 y916 z916
     obtain ⟨X916, hS916, hZ916, ho916⟩ := rebS (s := s) (vm0 := T891.vm) (n1 := T914.heap.size) hS891 (by rw [e914]; first | exact hk891 | exact Nat.le_refl _) X916r hS916r hg916r hZ891 ho891
     obtain ⟨h916, e916⟩ : ∃ h, T916.heap = h := ⟨_, rfl⟩
     rw [e916] at hQ916
     obtain ⟨rfl, N916q, K916q, Q916_0, Q916_1, Q916_2, Q916_3, Q916_4, Q916_5, Q916_6, Q916_7⟩ := hQ916
     have N916 := Fr.app N914 N916q
     have Z916 : n0 ≤ h916.size := Nat.le_trans Z891 K916q.1
     have K916 : Keep h0 h916 [] := K891.trans K916q (fun x hx => by cases List.mem_singleton.mp hx; exact Or.inr sz_b854)
     have Sf917 : Sta Z h916 "java/lang/String" "COMPACT_STRINGS" "Z" (.int gc1) := own_sta_keep Sf892 K916q (own_ns1 (own_ns_exa Ef904))
     have Sf918 : Sta Z h916 "jdk/internal/util/Preconditions" "SIOOBE_FORMATTER" "Ljava/util/function/BiFunction;" gf3 := own_sta_keep Sf893 K916q (own_ns1 (own_ns_exa Ef904))
     have Sf919 : Sta Z h916 "java/util/Optional" "EMPTY" "Ljava/util/Optional;" (.ref s_EMPTY) := own_sta_keep Sf894 K916q (own_ns1 (own_ns_exa Ef904))
     have Ef920 : Exa Z h916 s_EMPTY "java/util/Optional" := (Ef895).keep K916q
     have Ff921 : Fld Z h916 s_EMPTY "java/util/Optional" "value" "Ljava/lang/Object;" .null := (Ff896).keep K916q (fun q => absurd (List.mem_singleton.mp q) ne_s_EMPTY_b854)
     have Ef922 : Exa Z h916 b343 "java/lang/String" := (Ef897).keep K916q
     have Ff923 : Fld Z h916 b343 "java/lang/String" "value" "[B" (.ref b343b) := (Ff898).keep K916q (fun q => absurd (List.mem_singleton.mp q) ne_b343_b854)
     have Ff924 : Fld Z h916 b343 "java/lang/String" "coder" "B" (.int 0) := (Ff899).keep K916q (fun q => absurd (List.mem_singleton.mp q) ne_b343_b854)
     have Ef925 : Exa Z h916 b343b "[B" := (Ef900).keep K916q
     have Vf926 : Arv Z h916 b343b kb343b .byte (1 : Int32) ((([v294] : List Int32).map (fun c => c.toInt8.toInt32)).map Value.int) (.int 0) := (Vf901).keep K916q (fun q => absurd (List.mem_singleton.mp q) ne_b343b_b854)
     have Ef927 : Exa Z h916 b831 "java/util/Optional" := (Ef902).keep K916q
     have Ff928 : Fld Z h916 b831 "java/util/Optional" "value" "Ljava/lang/Object;" (.ref b343) := (Ff903).keep K916q (fun q => absurd (List.mem_singleton.mp q) ne_b831_b854)
     have Ef929 : Exa Z h916 b854 own_GU := (Ef904).keep K916q
     rw [e916] at hC916
     have CR916 := CR891.trans hC916
     have hk916 : T916.heap.size ≤ h916.size := by rw [e916]; exact Nat.le_refl _
     have pre930 : own_P p e below T916 (mkF m 213 #[vI p0, vI p1, vI p2, vI p3, vI p4, vI v273, vI v279, vI v285, vI v291, vI v294, vI v297, vI v300, vI v303, vR b306, vR b343, vR b353, vR b831, vR s_EMPTY, vR s_EMPTY, .unset, .unset] [(.ref b854)]) s₁ (own_E m p0 p1 p2 p3 p4) := fun t k => pre915 t (st916.trans k)
     have pre931 : own_P p e below T916 (mkF m 217 #[vI p0, vI p1, vI p2, vI p3, vI p4, vI v273, vI v279, vI v285, vI v291, vI v294, vI v297, vI v300, vI v303, vR b306, vR b343, vR b353, vR b831, vR s_EMPTY, vR s_EMPTY, vR b854, .unset] [(.ref b854)]) s₁ (own_E m p0 p1 p2 p3 p4) := by
      intro t k
      refine pre930 t ?_
      refine XS.astore X916.here hx rfl (hb hby at_213) rfl rfl (l' := #[vI p0, vI p1, vI p2, vI p3, vI p4, vI v273, vI v279, vI v285, vI v291, vI v294, vI v297, vI v300, vI v303, vR b306, vR b343, vR b353, vR b831, vR s_EMPTY, vR s_EMPTY, vR b854, .unset]) rfl ?_
      refine XS.aload X916.here hx rfl (hb hby at_215) rfl rfl ?_
      exact k
     obtain ⟨cq932, kq932, q932a, q932b, q932c⟩ := isOf hZ916 e916 Q916_0
     obtain ⟨_, _, ⟨T932, L932, k932, n932⟩, -, X932r, hS932r, hg932r, ⟨Lc932, hQ932, l932, y932, z932, hC932⟩, st932⟩ := X916.virtualBackS hx (y := (⟨own_GU, "effectiveType", "()Ljava/lang/String;"⟩ : MethodName)) (z := (⟨own_GU, "effectiveType", "()Ljava/lang/String;"⟩ : MethodName)) ho916 (mvT hZ916 (own_w hw 73 rfl)) (mvT hZ916 (own_w hw 74 rfl)) (notFace_of_selects (args := #[]) (mvT hZ916 (own_w hw 76 rfl))) (mvT hZ916 (own_w hw 76 rfl)) (mvT hZ916 (own_w hw 75 rfl)) (by decide) (backOfSH (W := 0) (rm10_y l Z ar0 hw [] b854 b831 b343 h916 n0 Z916 Q916_0 Q916_4 Ef927 Ff928 Ef922) hZ916 (own_w hw 77 rfl) (own_w hw 34 rfl) (by decide) (by decide) hEL CR916.1) q932a q932c (g := (mkF m 217 #[vI p0, vI p1, vI p2, vI p3, vI p4, vI v273, vI v279, vI v285, vI v291, vI v294, vI v297, vI v300, vI v303, vR b306, vR b343, vR b353, vR b831, vR s_EMPTY, vR s_EMPTY, vR b854, .unset] [(.ref b854)])) rfl (by rw [hml]; rfl) (Steps.refl _) (argsL := []) (rest := []) (lenOf pd_12 rfl) rfl (by show 2 * 0 + _ ≤ _; exact Nat.le_of_eq rfl) (hb hby at_217) (fun _ _ => ⟨rfl, e916, (by decide : 25 + 2 ≤ _), (by decide : 265 + 8 ≤ _)⟩)
     dsimp only [Pt.U, Pt.locs, Pt.cells, Pt.slots] at X932r hS932r hg932r l932 y932 z932 st932 hQ932 hC932
     subst l932 y932 z932
     obtain ⟨X932, hS932, hZ932, ho932⟩ := rebS (s := s) (vm0 := T916.vm) (n1 := T916.heap.size) hS916 (by rw [e916]; first | exact hk916 | exact Nat.le_refl _) X932r hS932r hg932r hZ916 ho916
     obtain ⟨h932, e932⟩ : ∃ h, T932.heap = h := ⟨_, rfl⟩
     rw [e932] at hQ932
     obtain ⟨rfl, N932q, K932q⟩ := hQ932
     have N932 := Fr.app N916 N932q
     have Z932 : n0 ≤ h932.size := Nat.le_trans Z916 K932q.1
     have K932 : Keep h0 h932 [] := K916.trans K932q (fun x hx => absurd hx List.not_mem_nil)
     have Sf933 : Sta Z h932 "java/lang/String" "COMPACT_STRINGS" "Z" (.int gc1) := own_sta_keep0 Sf917 K932q
     have Sf934 : Sta Z h932 "jdk/internal/util/Preconditions" "SIOOBE_FORMATTER" "Ljava/util/function/BiFunction;" gf3 := own_sta_keep0 Sf918 K932q
     have Sf935 : Sta Z h932 "java/util/Optional" "EMPTY" "Ljava/util/Optional;" (.ref s_EMPTY) := own_sta_keep0 Sf919 K932q
     have Ef936 : Exa Z h932 s_EMPTY "java/util/Optional" := (Ef920).keep K932q
     have Ff937 : Fld Z h932 s_EMPTY "java/util/Optional" "value" "Ljava/lang/Object;" .null := (Ff921).keep K932q List.not_mem_nil
     have Ef938 : Exa Z h932 b343 "java/lang/String" := (Ef922).keep K932q
     have Ff939 : Fld Z h932 b343 "java/lang/String" "value" "[B" (.ref b343b) := (Ff923).keep K932q List.not_mem_nil
     have Ff940 : Fld Z h932 b343 "java/lang/String" "coder" "B" (.int 0) := (Ff924).keep K932q List.not_mem_nil
     have Ef941 : Exa Z h932 b343b "[B" := (Ef925).keep K932q
     have Vf942 : Arv Z h932 b343b kb343b .byte (1 : Int32) ((([v294] : List Int32).map (fun c => c.toInt8.toInt32)).map Value.int) (.int 0) := (Vf926).keep K932q List.not_mem_nil
     have Ef943 : Exa Z h932 b831 "java/util/Optional" := (Ef927).keep K932q
     have Ff944 : Fld Z h932 b831 "java/util/Optional" "value" "Ljava/lang/Object;" (.ref b343) := (Ff928).keep K932q List.not_mem_nil
     have Ef945 : Exa Z h932 b854 own_GU := (Q916_0).keep K932q
     have Ff946 : Fld Z h932 b854 own_GU "text" "Ljava/lang/String;" (.ref a869) := (Q916_1).keep K932q List.not_mem_nil
     have Ff947 : Fld Z h932 b854 own_GU "host" "Ljava/lang/String;" (.ref a891) := (Q916_2).keep K932q List.not_mem_nil
     have Ff948 : Fld Z h932 b854 own_GU "port" "Ljava/util/Optional;" (.ref s_EMPTY) := (Q916_3).keep K932q List.not_mem_nil
     have Ff949 : Fld Z h932 b854 own_GU "type" "Ljava/util/Optional;" (.ref b831) := (Q916_4).keep K932q List.not_mem_nil
     have Ff950 : Fld Z h932 b854 own_GU "selector" "Ljava/lang/String;" (.ref b353) := (Q916_5).keep K932q List.not_mem_nil
     have Ff951 : Fld Z h932 b854 own_GU "search" "Ljava/util/Optional;" (.ref s_EMPTY) := (Q916_6).keep K932q List.not_mem_nil
     have Ff952 : Fld Z h932 b854 own_GU "gopherPlus" "Ljava/util/Optional;" (.ref s_EMPTY) := (Q916_7).keep K932q List.not_mem_nil
     rw [e932] at hC932
     have CR932 := CR916.trans hC932
     have hk932 : T932.heap.size ≤ h932.size := by rw [e932]; exact Nat.le_refl _
     have pre953 : own_P p e below T932 (mkF m 220 #[vI p0, vI p1, vI p2, vI p3, vI p4, vI v273, vI v279, vI v285, vI v291, vI v294, vI v297, vI v300, vI v303, vR b306, vR b343, vR b353, vR b831, vR s_EMPTY, vR s_EMPTY, vR b854, .unset] [(.ref b343)]) s₁ (own_E m p0 p1 p2 p3 p4) := fun t k => pre931 t (st932.trans k)
     have pre954 : own_P p e below T932 (mkF m 238 #[vI p0, vI p1, vI p2, vI p3, vI p4, vI v273, vI v279, vI v285, vI v291, vI v294, vI v297, vI v300, vI v303, vR b306, vR b343, vR b353, vR b831, vR s_EMPTY, vR s_EMPTY, vR b854, vR b343] [(.ref b343), (.ref b343)]) s₁ (own_E m p0 p1 p2 p3 p4) := by
      intro t k
      refine pre953 t ?_
      refine XS.astore X932.here hx rfl (hb hby at_220) rfl rfl (l' := #[vI p0, vI p1, vI p2, vI p3, vI p4, vI v273, vI v279, vI v285, vI v291, vI v294, vI v297, vI v300, vI v303, vR b306, vR b343, vR b353, vR b831, vR s_EMPTY, vR s_EMPTY, vR b854, vR b343]) rfl ?_
      refine XS.aload X932.here hx rfl (hb hby at_222) rfl rfl ?_
      refine XS.ifnonnullYes X932.here hx rfl (pc0 := 224) (pc' := 229) rfl (hb hby at_224) rfl (by decide) (by decide) ?_
      refine XS.iload X932.here hx rfl (hb hby at_229) rfl ?_
      refine XS.ifNo X932.here hx rfl (hb hby at_231) rfl ((if0 _ _).trans (feq hc139_368).1) ?_
      refine XS.aload X932.here hx rfl (hb hby at_234) rfl rfl ?_
      refine XS.aload X932.here hx rfl (hb hby at_236) rfl rfl ?_
      exact k
     obtain ⟨cq955, kq955, q955a, q955b, q955c⟩ := isOf hZ932 e932 Ef938
     obtain ⟨_, _, ⟨T955, L955, k955, n955⟩, -, X955, ⟨Lc955, hQ955, l955, y955, z955⟩, st955⟩ := X932.virtualBack hx (y := (⟨"java/lang/String", "equals", "(Ljava/lang/Object;)Z"⟩ : MethodName)) (z := (⟨"java/lang/String", "equals", "(Ljava/lang/Object;)Z"⟩ : MethodName)) ho932 (mvT hZ932 (own_w hw 148 rfl)) (mvT hZ932 (own_w hw 149 rfl)) (notFace_of_selects (args := #[]) (mvT hZ932 (own_w hw 151 rfl))) (mvT hZ932 (own_w hw 151 rfl)) (mvT hZ932 (own_w hw 150 rfl)) (by decide) (backOf (W := 0) (rm27_s l Z ar0 hw [] b343 h932 n0 Z932) hZ932 (own_w hw 152 rfl) (own_w hw 3 rfl) (by decide) (by decide)) q955a q955c (g := (mkF m 238 #[vI p0, vI p1, vI p2, vI p3, vI p4, vI v273, vI v279, vI v285, vI v291, vI v294, vI v297, vI v300, vI v303, vR b306, vR b343, vR b353, vR b831, vR s_EMPTY, vR s_EMPTY, vR b854, vR b343] [(.ref b343), (.ref b343)])) rfl (by rw [hml]; rfl) (Steps.refl _) (argsL := [(.ref b343)]) (rest := []) (lenOf pd_15 rfl) rfl (by show 2 * 0 + _ ≤ _; exact Nat.le_of_eq rfl) (hb hby at_238) (fun _ _ => ⟨rfl, e932, (by decide : 27 + 0 ≤ _), (by decide : 273 + 0 ≤ _)⟩)
     dsimp only [Pt.U, Pt.locs, Pt.cells, Pt.slots] at X955 l955 y955 z955 st955 hQ955
     subst l955 y955 z955
     obtain ⟨rfl, N955q, e955⟩ := hQ955
     have N955 := Fr.app N932 N955q
     have pre956 : own_P p e below T955 (mkF m 241 #[vI p0, vI p1, vI p2, vI p3, vI p4, vI v273, vI v279, vI v285, vI v291, vI v294, vI v297, vI v300, vI v303, vR b306, vR b343, vR b353, vR b831, vR s_EMPTY, vR s_EMPTY, vR b854, vR b343] [(.int 1)]) s₁ (own_E m p0 p1 p2 p3 p4) := fun t k => pre954 t (st955.trans k)
     obtain ⟨fs, hr, hrun, hended, hRW⟩ := X955.leaveW (s := s) (vm₁ := T932.vm) hS932 (by rw [e955]; first | exact hk932 | exact Nat.le_refl _) (v := some (.int 1)) (fun h => by rw [Bd.returns] at h; cases h)
     refine ⟨_, _, pre956 _ ?_, hrun, hended, _, _, rfl, ?_, hRW.1, hRW.2.1, hRW.2.2.1, hRW.2.2.2.mono (by decide) (by decide)⟩
     ·
      exact retN X955 hx (t := .boolean) Bd.returns (by simp) (hb hby at_241) hr
     ·
      show Q0 Z p0 p1 p2 p3 p4 gc1 gf3 s_EMPTY h0 n0 _ T955.heap _
      rw [e955]
      exact ⟨rfl, N955⟩
    ·
     have pre957 : ∀ t, Steps p.tables e below (T846.setTop (mkF m 180 #[vI p0, vI p1, vI p2, vI p3, vI p4, vI v273, vI v279, vI v285, vI v291, vI v294, vI v297, vI v300, vI v303, vR b306, vR b343, vR b353, vR b831, vR s_EMPTY, .unset, .unset, .unset] [(.ref b353)])) t → Steps p.tables e below (s₁.setTop (own_E m p0 p1 p2 p3 p4)) t := by
      intro t k
      refine pre848 t ?_
      refine XS.ifNo X846.here hx rfl (hb hby at_175) rfl ((if0 _ _).trans (feq hc175_849).1) ?_
      refine XS.aload X846.here hx rfl (hb hby at_178) rfl rfl ?_
      exact k
     obtain ⟨_, _, ⟨T958, L958, k958, n958⟩, -, X958, ⟨Lc958, hQ958, l958, y958, z958⟩, st958⟩ := Jvm.LawKit.callS X846 hx (y := (⟨"java/util/Optional", "of", "(Ljava/lang/Object;)Ljava/util/Optional;"⟩ : MethodName)) hown (mvT hZ (own_w hw 135 rfl)) (mvT hZ (own_w hw 136 rfl)) (mvT hZ (own_w hw 29 rfl)) (mvT hZ (own_w hw 137 rfl)) (by decide) (backOf (W := 0) (rm24 l Z ar0 hw [] b353 h831 n0 Z831) hZ (own_w hw 137 rfl) (own_w hw 29 rfl) (by decide) (by decide)) (g := (mkF m 180 #[vI p0, vI p1, vI p2, vI p3, vI p4, vI v273, vI v279, vI v285, vI v291, vI v294, vI v297, vI v300, vI v303, vR b306, vR b343, vR b353, vR b831, vR s_EMPTY, .unset, .unset, .unset] [(.ref b353)])) rfl (by rw [hml]; rfl) (argsL := [(.ref b353)]) (rest := []) (lenOf pd_10 rfl) rfl (by show 2 * 0 + _ ≤ _; exact Nat.le_of_eq rfl) (hb hby at_180) (fun _ _ => ⟨rfl, e846, (by decide : 6 + 1 ≤ _), (by decide : 14 + 1 ≤ _)⟩)
     dsimp only [Pt.U, Pt.locs, Pt.cells, Pt.slots] at X958 l958 y958 z958 st958 hQ958
     subst l958 y958 z958
     obtain ⟨h958, e958⟩ : ∃ h, T958.heap = h := ⟨_, rfl⟩
     rw [e958] at hQ958
     obtain ⟨b958, rfl, N958q, K958q, y_b958, Ob958_0, Ob958_1⟩ := hQ958
     have N958 := Fr.app N846 N958q
     have ne_s_EMPTY_b958 : s_EMPTY ≠ b958 := Nat.ne_of_lt (Nat.lt_of_lt_of_le (Ef835).lt y_b958)
     have ne_b343_b958 : b343 ≠ b958 := Nat.ne_of_lt (Nat.lt_of_lt_of_le (Ef837).lt y_b958)
     have ne_b343b_b958 : b343b ≠ b958 := Nat.ne_of_lt (Nat.lt_of_lt_of_le (Ef840).lt y_b958)
     have ne_b831_b958 : b831 ≠ b958 := Nat.ne_of_lt (Nat.lt_of_lt_of_le (Ob831_0).lt y_b958)
     have g_b958 : n0 ≤ b958 := Nat.le_trans Z831 y_b958
     have sz_b958 : h0.size ≤ b958 := Nat.le_trans K831.1 y_b958
     have Z958 : n0 ≤ h958.size := Nat.le_trans Z831 K958q.1
     have hk958 := Nat.le_trans hk831 K958q.1
     have K958 : Keep h0 h958 [] := K831.trans K958q (fun x hx => absurd hx List.not_mem_nil)
     have CR958 := CR831.trans (CHr.keep K958q sf0 CR831.1)
     have Sf959 : Sta Z h958 "java/lang/String" "COMPACT_STRINGS" "Z" (.int gc1) := own_sta_keep0 Sf832 K958q
     have Sf960 : Sta Z h958 "jdk/internal/util/Preconditions" "SIOOBE_FORMATTER" "Ljava/util/function/BiFunction;" gf3 := own_sta_keep0 Sf833 K958q
     have Sf961 : Sta Z h958 "java/util/Optional" "EMPTY" "Ljava/util/Optional;" (.ref s_EMPTY) := own_sta_keep0 Sf834 K958q
     have Ef962 : Exa Z h958 s_EMPTY "java/util/Optional" := (Ef835).keep K958q
     have Ff963 : Fld Z h958 s_EMPTY "java/util/Optional" "value" "Ljava/lang/Object;" .null := (Ff836).keep K958q List.not_mem_nil
     have Ef964 : Exa Z h958 b343 "java/lang/String" := (Ef837).keep K958q
     have Ff965 : Fld Z h958 b343 "java/lang/String" "value" "[B" (.ref b343b) := (Ff838).keep K958q List.not_mem_nil
     have Ff966 : Fld Z h958 b343 "java/lang/String" "coder" "B" (.int 0) := (Ff839).keep K958q List.not_mem_nil
     have Ef967 : Exa Z h958 b343b "[B" := (Ef840).keep K958q
     have Vf968 : Arv Z h958 b343b kb343b .byte (1 : Int32) ((([v294] : List Int32).map (fun c => c.toInt8.toInt32)).map Value.int) (.int 0) := (Vf841).keep K958q List.not_mem_nil
     have Ef969 : Exa Z h958 b831 "java/util/Optional" := (Ob831_0).keep K958q
     have Ff970 : Fld Z h958 b831 "java/util/Optional" "value" "Ljava/lang/Object;" (.ref b343) := (Ob831_1).keep K958q List.not_mem_nil
     have pre971 : own_P p e below T958 (mkF m 183 #[vI p0, vI p1, vI p2, vI p3, vI p4, vI v273, vI v279, vI v285, vI v291, vI v294, vI v297, vI v300, vI v303, vR b306, vR b343, vR b353, vR b831, vR s_EMPTY, .unset, .unset, .unset] [(.ref b958)]) s₁ (own_E m p0 p1 p2 p3 p4) := fun t k => pre957 t (st958 t k)
     have pre972 : own_P p e below T958 (mkF m 191 #[vI p0, vI p1, vI p2, vI p3, vI p4, vI v273, vI v279, vI v285, vI v291, vI v294, vI v297, vI v300, vI v303, vR b306, vR b343, vR b353, vR b831, vR s_EMPTY, vR b958, .unset, .unset] []) s₁ (own_E m p0 p1 p2 p3 p4) := by
      intro t k
      refine pre971 t ?_
      refine XS.goto X958.here hx rfl (pc0 := 183) (pc' := 189) rfl (hb hby at_183) (by decide) (by decide) ?_
      refine XS.astore X958.here hx rfl (hb hby at_189) rfl rfl (l' := #[vI p0, vI p1, vI p2, vI p3, vI p4, vI v273, vI v279, vI v285, vI v291, vI v294, vI v297, vI v300, vI v303, vR b306, vR b343, vR b353, vR b831, vR s_EMPTY, vR b958, .unset, .unset]) rfl ?_
      exact k
     obtain ⟨T973, h973, X973, e973, E973, A973, D973, -, st973⟩ := newO X958 hx hZ hown (own_w hw 32 rfl) (own_w hw 33 rfl) (own_w hw 34 rfl) e958 (g := (mkF m 191 #[vI p0, vI p1, vI p2, vI p3, vI p4, vI v273, vI v279, vI v285, vI v291, vI v294, vI v297, vI v300, vI v303, vR b306, vR b343, vR b353, vR b831, vR s_EMPTY, vR b958, .unset, .unset] [])) rfl (hb hby at_191) (by decide) (by decide)
     obtain ⟨b973, g973⟩ : ∃ z, z = h958.size := ⟨_, rfl⟩
     rw [← g973] at A973 D973 st973
     have ne_s_EMPTY_b973 : s_EMPTY ≠ b973 := Nat.ne_of_lt (Nat.lt_of_lt_of_le (Ef962).lt (Nat.le_of_eq g973.symm))
     have ne_b343_b973 : b343 ≠ b973 := Nat.ne_of_lt (Nat.lt_of_lt_of_le (Ef964).lt (Nat.le_of_eq g973.symm))
     have ne_b343b_b973 : b343b ≠ b973 := Nat.ne_of_lt (Nat.lt_of_lt_of_le (Ef967).lt (Nat.le_of_eq g973.symm))
     have ne_b831_b973 : b831 ≠ b973 := Nat.ne_of_lt (Nat.lt_of_lt_of_le (Ef969).lt (Nat.le_of_eq g973.symm))
     have g_b973 : n0 ≤ b973 := Nat.le_trans Z958 (Nat.le_of_eq g973.symm)
     have sz_b973 : h0.size ≤ b973 := Nat.le_trans K958.1 (Nat.le_of_eq g973.symm)
     have Z973 : n0 ≤ h973.size := Nat.le_trans Z958 E973.1
     have K973 : Keep h0 h973 [] := K958.ext E973
     have hk973 := Nat.le_trans hk958 E973.1
     have CR973 := CR958.trans (CHr.ext E973 CR958.1)
     have Sf974 : Sta Z h973 "java/lang/String" "COMPACT_STRINGS" "Z" (.int gc1) := (Sf959).ext E973
     have Sf975 : Sta Z h973 "jdk/internal/util/Preconditions" "SIOOBE_FORMATTER" "Ljava/util/function/BiFunction;" gf3 := (Sf960).ext E973
     have Sf976 : Sta Z h973 "java/util/Optional" "EMPTY" "Ljava/util/Optional;" (.ref s_EMPTY) := (Sf961).ext E973
     have Ef977 : Exa Z h973 s_EMPTY "java/util/Optional" := (Ef962).ext E973
     have Ff978 : Fld Z h973 s_EMPTY "java/util/Optional" "value" "Ljava/lang/Object;" .null := (Ff963).ext E973
     have Ef979 : Exa Z h973 b343 "java/lang/String" := (Ef964).ext E973
     have Ff980 : Fld Z h973 b343 "java/lang/String" "value" "[B" (.ref b343b) := (Ff965).ext E973
     have Ff981 : Fld Z h973 b343 "java/lang/String" "coder" "B" (.int 0) := (Ff966).ext E973
     have Ef982 : Exa Z h973 b343b "[B" := (Ef967).ext E973
     have Vf983 : Arv Z h973 b343b kb343b .byte (1 : Int32) ((([v294] : List Int32).map (fun c => c.toInt8.toInt32)).map Value.int) (.int 0) := (Vf968).ext E973
     have Ef984 : Exa Z h973 b831 "java/util/Optional" := (Ef969).ext E973
     have Ff985 : Fld Z h973 b831 "java/util/Optional" "value" "Ljava/lang/Object;" (.ref b343) := (Ff970).ext E973
     have Ftext_b973 : Fld Z h973 b973 own_GU "text" "Ljava/lang/String;" .null := D973 (Or.inr (own_w hw 60 rfl)) (ty := (.object "java/lang/String")) (by decide)
     have Fhost_b973 : Fld Z h973 b973 own_GU "host" "Ljava/lang/String;" .null := D973 (Or.inr (own_w hw 62 rfl)) (ty := (.object "java/lang/String")) (by decide)
     have Fport_b973 : Fld Z h973 b973 own_GU "port" "Ljava/util/Optional;" .null := D973 (Or.inr (own_w hw 64 rfl)) (ty := (.object "java/util/Optional")) (by decide)
     have Ftype_b973 : Fld Z h973 b973 own_GU "type" "Ljava/util/Optional;" .null := D973 (Or.inr (own_w hw 66 rfl)) (ty := (.object "java/util/Optional")) (by decide)
     have Fselector_b973 : Fld Z h973 b973 own_GU "selector" "Ljava/lang/String;" .null := D973 (Or.inr (own_w hw 68 rfl)) (ty := (.object "java/lang/String")) (by decide)
     have Fsearch_b973 : Fld Z h973 b973 own_GU "search" "Ljava/util/Optional;" .null := D973 (Or.inr (own_w hw 70 rfl)) (ty := (.object "java/util/Optional")) (by decide)
     have FgopherPlus_b973 : Fld Z h973 b973 own_GU "gopherPlus" "Ljava/util/Optional;" .null := D973 (Or.inr (own_w hw 72 rfl)) (ty := (.object "java/util/Optional")) (by decide)
     have pre986 : own_P p e below T973 (mkF m 194 #[vI p0, vI p1, vI p2, vI p3, vI p4, vI v273, vI v279, vI v285, vI v291, vI v294, vI v297, vI v300, vI v303, vR b306, vR b343, vR b353, vR b831, vR s_EMPTY, vR b958, .unset, .unset] [(.ref b973)]) s₁ (own_E m p0 p1 p2 p3 p4) := fun t k => pre972 t (st973 t k)
     have pre987 : own_P p e below T973 (mkF m 195 #[vI p0, vI p1, vI p2, vI p3, vI p4, vI v273, vI v279, vI v285, vI v291, vI v294, vI v297, vI v300, vI v303, vR b306, vR b343, vR b353, vR b831, vR s_EMPTY, vR b958, .unset, .unset] [(.ref b973), (.ref b973)]) s₁ (own_E m p0 p1 p2 p3 p4) := by
      intro t k
      refine pre986 t ?_
      refine XS.dup X973.here hx rfl (hb hby at_194) rfl rfl ?_
      exact k
     obtain ⟨a988, T988, h988, k988, X988, e988, E988, hS988, hk988, hZ988, ho988, hC988, -, st988⟩ := ldcOH (s := s) (vm0 := s.vm) X973 hx hZ hown (own_w hw 35 rfl) (own_strW hw) e973 hS0 hk973 hEL CR973.1 (g := (mkF m 195 #[vI p0, vI p1, vI p2, vI p3, vI p4, vI v273, vI v279, vI v285, vI v291, vI v294, vI v297, vI v300, vI v303, vR b306, vR b343, vR b353, vR b831, vR s_EMPTY, vR b958, .unset, .unset] [(.ref b973), (.ref b973)])) rfl (hb hby at_195) (n := 44) (by decide) (by decide) (by decide) (by decide)
     have CR988 := CR973.trans hC988
     have Z988 : n0 ≤ h988.size := Nat.le_trans Z973 E988.1
     have K988 : Keep h0 h988 [] := K973.ext E988
     have Sf989 : Sta Z h988 "java/lang/String" "COMPACT_STRINGS" "Z" (.int gc1) := (Sf974).ext E988
     have Sf990 : Sta Z h988 "jdk/internal/util/Preconditions" "SIOOBE_FORMATTER" "Ljava/util/function/BiFunction;" gf3 := (Sf975).ext E988
     have Sf991 : Sta Z h988 "java/util/Optional" "EMPTY" "Ljava/util/Optional;" (.ref s_EMPTY) := (Sf976).ext E988
     have Ef992 : Exa Z h988 s_EMPTY "java/util/Optional" := (Ef977).ext E988
     have Ff993 : Fld Z h988 s_EMPTY "java/util/Optional" "value" "Ljava/lang/Object;" .null := (Ff978).ext E988
     have Ef994 : Exa Z h988 b343 "java/lang/String" := (Ef979).ext E988
     have Ff995 : Fld Z h988 b343 "java/lang/String" "value" "[B" (.ref b343b) := (Ff980).ext E988
     have Ff996 : Fld Z h988 b343 "java/lang/String" "coder" "B" (.int 0) := (Ff981).ext E988
     have Ef997 : Exa Z h988 b343b "[B" := (Ef982).ext E988
     have Vf998 : Arv Z h988 b343b kb343b .byte (1 : Int32) ((([v294] : List Int32).map (fun c => c.toInt8.toInt32)).map Value.int) (.int 0) := (Vf983).ext E988
     have Ef999 : Exa Z h988 b831 "java/util/Optional" := (Ef984).ext E988
     have Ff1000 : Fld Z h988 b831 "java/util/Optional" "value" "Ljava/lang/Object;" (.ref b343) := (Ff985).ext E988
     have Ef1001 : Exa Z h988 b973 own_GU := (A973).ext E988
     have Ff1002 : Fld Z h988 b973 own_GU "text" "Ljava/lang/String;" .null := (Ftext_b973).ext E988
     have Ff1003 : Fld Z h988 b973 own_GU "host" "Ljava/lang/String;" .null := (Fhost_b973).ext E988
     have Ff1004 : Fld Z h988 b973 own_GU "port" "Ljava/util/Optional;" .null := (Fport_b973).ext E988
     have Ff1005 : Fld Z h988 b973 own_GU "type" "Ljava/util/Optional;" .null := (Ftype_b973).ext E988
     have Ff1006 : Fld Z h988 b973 own_GU "selector" "Ljava/lang/String;" .null := (Fselector_b973).ext E988
     have Ff1007 : Fld Z h988 b973 own_GU "search" "Ljava/util/Optional;" .null := (Fsearch_b973).ext E988
     have Ff1008 : Fld Z h988 b973 own_GU "gopherPlus" "Ljava/util/Optional;" .null := (FgopherPlus_b973).ext E988
     have pre1009 : own_P p e below T988 (mkF m 197 #[vI p0, vI p1, vI p2, vI p3, vI p4, vI v273, vI v279, vI v285, vI v291, vI v294, vI v297, vI v300, vI v303, vR b306, vR b343, vR b353, vR b831, vR s_EMPTY, vR b958, .unset, .unset] [(.ref a988), (.ref b973), (.ref b973)]) s₁ (own_E m p0 p1 p2 p3 p4) := fun t k => pre987 t (st988 t k)
     obtain ⟨a1010, T1010, h1010, k1010, X1010, e1010, E1010, hS1010, hk1010, hZ1010, ho1010, hC1010, -, st1010⟩ := ldcOH (s := s) (vm0 := T988.vm) X988 hx hZ988 ho988 (own_w hw 38 rfl) (own_strW hw) e988 hS988 hk988 hEL CR988.1 (g := (mkF m 197 #[vI p0, vI p1, vI p2, vI p3, vI p4, vI v273, vI v279, vI v285, vI v291, vI v294, vI v297, vI v300, vI v303, vR b306, vR b343, vR b353, vR b831, vR s_EMPTY, vR b958, .unset, .unset] [(.ref a988), (.ref b973), (.ref b973)])) rfl (hb hby at_197) (n := 4) (by decide) (by decide) (by decide) (by decide)
     have CR1010 := CR988.trans hC1010
     have Z1010 : n0 ≤ h1010.size := Nat.le_trans Z988 E1010.1
     have K1010 : Keep h0 h1010 [] := K988.ext E1010
     have Sf1011 : Sta Z h1010 "java/lang/String" "COMPACT_STRINGS" "Z" (.int gc1) := (Sf989).ext E1010
     have Sf1012 : Sta Z h1010 "jdk/internal/util/Preconditions" "SIOOBE_FORMATTER" "Ljava/util/function/BiFunction;" gf3 := (Sf990).ext E1010
     have Sf1013 : Sta Z h1010 "java/util/Optional" "EMPTY" "Ljava/util/Optional;" (.ref s_EMPTY) := (Sf991).ext E1010
     have Ef1014 : Exa Z h1010 s_EMPTY "java/util/Optional" := (Ef992).ext E1010
     have Ff1015 : Fld Z h1010 s_EMPTY "java/util/Optional" "value" "Ljava/lang/Object;" .null := (Ff993).ext E1010
     have Ef1016 : Exa Z h1010 b343 "java/lang/String" := (Ef994).ext E1010
     have Ff1017 : Fld Z h1010 b343 "java/lang/String" "value" "[B" (.ref b343b) := (Ff995).ext E1010
     have Ff1018 : Fld Z h1010 b343 "java/lang/String" "coder" "B" (.int 0) := (Ff996).ext E1010
     have Ef1019 : Exa Z h1010 b343b "[B" := (Ef997).ext E1010
     have Vf1020 : Arv Z h1010 b343b kb343b .byte (1 : Int32) ((([v294] : List Int32).map (fun c => c.toInt8.toInt32)).map Value.int) (.int 0) := (Vf998).ext E1010
     have Ef1021 : Exa Z h1010 b831 "java/util/Optional" := (Ef999).ext E1010
     have Ff1022 : Fld Z h1010 b831 "java/util/Optional" "value" "Ljava/lang/Object;" (.ref b343) := (Ff1000).ext E1010
     have Ef1023 : Exa Z h1010 b973 own_GU := (Ef1001).ext E1010
     have Ff1024 : Fld Z h1010 b973 own_GU "text" "Ljava/lang/String;" .null := (Ff1002).ext E1010
     have Ff1025 : Fld Z h1010 b973 own_GU "host" "Ljava/lang/String;" .null := (Ff1003).ext E1010
     have Ff1026 : Fld Z h1010 b973 own_GU "port" "Ljava/util/Optional;" .null := (Ff1004).ext E1010
     have Ff1027 : Fld Z h1010 b973 own_GU "type" "Ljava/util/Optional;" .null := (Ff1005).ext E1010
     have Ff1028 : Fld Z h1010 b973 own_GU "selector" "Ljava/lang/String;" .null := (Ff1006).ext E1010
     have Ff1029 : Fld Z h1010 b973 own_GU "search" "Ljava/util/Optional;" .null := (Ff1007).ext E1010
     have Ff1030 : Fld Z h1010 b973 own_GU "gopherPlus" "Ljava/util/Optional;" .null := (Ff1008).ext E1010
     have pre1031 : own_P p e below T1010 (mkF m 199 #[vI p0, vI p1, vI p2, vI p3, vI p4, vI v273, vI v279, vI v285, vI v291, vI v294, vI v297, vI v300, vI v303, vR b306, vR b343, vR b353, vR b831, vR s_EMPTY, vR b958, .unset, .unset] [(.ref a1010), (.ref a988), (.ref b973), (.ref b973)]) s₁ (own_E m p0 p1 p2 p3 p4) := fun t k => pre1009 t (st1010 t k)
     have pre1032 : own_P p e below T1010 (mkF m 207 #[vI p0, vI p1, vI p2, vI p3, vI p4, vI v273, vI v279, vI v285, vI v291, vI v294, vI v297, vI v300, vI v303, vR b306, vR b343, vR b353, vR b831, vR s_EMPTY, vR b958, .unset, .unset] [(.ref s_EMPTY), (.ref b353), (.ref b831), (.ref b958), (.ref a1010), (.ref a988), (.ref b973), (.ref b973)]) s₁ (own_E m p0 p1 p2 p3 p4) := by
      intro t k
      refine pre1031 t ?_
      refine XS.aload X1010.here hx rfl (hb hby at_199) rfl rfl ?_
      refine XS.aload X1010.here hx rfl (hb hby at_201) rfl rfl ?_
      refine XS.aload X1010.here hx rfl (hb hby at_203) rfl rfl ?_
      refine XS.aload X1010.here hx rfl (hb hby at_205) rfl rfl ?_
      exact k
     obtain ⟨_, _, ⟨T1033, L1033, k1033, n1033⟩, -, X1033, ⟨Lc1033, hQ1033, l1033, y1033, z1033⟩, st1033⟩ := Jvm.LawKit.callS X1010 hx (y := (⟨"java/util/Optional", "empty", "()Ljava/util/Optional;"⟩ : MethodName)) ho1010 (mvT hZ1010 (own_w hw 27 rfl)) (mvT hZ1010 (own_w hw 28 rfl)) (mvT hZ1010 (own_w hw 29 rfl)) (mvT hZ1010 (own_w hw 30 rfl)) (by decide) (backOf (W := 8) (rm6 l Z ar0 hw [] s_EMPTY h1010 n0 Z1010 Sf1013) hZ1010 (own_w hw 30 rfl) (own_w hw 29 rfl) (by decide) (by decide)) (g := (mkF m 207 #[vI p0, vI p1, vI p2, vI p3, vI p4, vI v273, vI v279, vI v285, vI v291, vI v294, vI v297, vI v300, vI v303, vR b306, vR b343, vR b353, vR b831, vR s_EMPTY, vR b958, .unset, .unset] [(.ref s_EMPTY), (.ref b353), (.ref b831), (.ref b958), (.ref a1010), (.ref a988), (.ref b973), (.ref b973)])) rfl (by rw [hml]; rfl) (argsL := []) (rest := [(.ref s_EMPTY), (.ref b353), (.ref b831), (.ref b958), (.ref a1010), (.ref a988), (.ref b973), (.ref b973)]) (lenOf pd_9 rfl) rfl (by show 2 * 0 + _ ≤ _; exact Nat.le_of_eq rfl) (hb hby at_207) (fun _ _ => ⟨rfl, e1010, (by decide : 12 + 0 ≤ _), (by decide : 78 + 0 ≤ _)⟩)
     dsimp only [Pt.U, Pt.locs, Pt.cells, Pt.slots] at X1033 l1033 y1033 z1033 st1033 hQ1033
     subst l1033 y1033 z1033
     obtain ⟨rfl, N1033q, e1033⟩ := hQ1033
     have N1033 := Fr.app N958 N1033q
     have pre1034 : own_P p e below T1033 (mkF m 210 #[vI p0, vI p1, vI p2, vI p3, vI p4, vI v273, vI v279, vI v285, vI v291, vI v294, vI v297, vI v300, vI v303, vR b306, vR b343, vR b353, vR b831, vR s_EMPTY, vR b958, .unset, .unset] [(.ref s_EMPTY), (.ref s_EMPTY), (.ref b353), (.ref b831), (.ref b958), (.ref a1010), (.ref a988), (.ref b973), (.ref b973)]) s₁ (own_E m p0 p1 p2 p3 p4) := fun t k => pre1032 t (st1033 t k)
     obtain ⟨_, _, ⟨T1035, L1035, k1035, n1035⟩, -, X1035r, hS1035r, hg1035r, ⟨Lc1035, hQ1035, l1035, y1035, z1035, hC1035⟩, st1035⟩ := X1033.specialBackS hx (y := (⟨own_GU, "<init>", "(Ljava/lang/String;Ljava/lang/String;Ljava/util/Optional;Ljava/util/Optional;Ljava/lang/String;Ljava/util/Optional;Ljava/util/Optional;)V"⟩ : MethodName)) rfl ho1010 (mvT hZ1010 (own_w hw 39 rfl)) (mvT hZ1010 (own_w hw 40 rfl)) (mvT hZ1010 (own_w hw 41 rfl)) (by decide) (backOfSH (W := 1) (rm7 l Z ar0 hw [] b973 a988 a1010 b958 b831 b353 s_EMPTY s_EMPTY .null .null .null .null .null .null .null h1010 n0 Z1010 Ef1023 Ff1024 Ff1025 Ff1026 Ff1027 Ff1028 Ff1029 Ff1030 g_b973) hZ1010 (own_w hw 41 rfl) (own_w hw 34 rfl) (by decide) (by decide) hEL CR1010.1) (g := (mkF m 210 #[vI p0, vI p1, vI p2, vI p3, vI p4, vI v273, vI v279, vI v285, vI v291, vI v294, vI v297, vI v300, vI v303, vR b306, vR b343, vR b353, vR b831, vR s_EMPTY, vR b958, .unset, .unset] [(.ref s_EMPTY), (.ref s_EMPTY), (.ref b353), (.ref b831), (.ref b958), (.ref a1010), (.ref a988), (.ref b973), (.ref b973)])) rfl (by rw [hml]; rfl) (Steps.refl _) (a := b973) (argsL := [(.ref a988), (.ref a1010), (.ref b958), (.ref b831), (.ref b353), (.ref s_EMPTY), (.ref s_EMPTY)]) (rest := [(.ref b973)]) (lenOf pd_11 rfl) rfl (by show 2 * 0 + _ ≤ _; exact Nat.le_of_eq rfl) (hb hby at_210) (fun _ _ => ⟨rfl, e1033, (by decide : 12 + 14 ≤ _), (by decide : 78 + 188 ≤ _)⟩)
     dsimp only [Pt.U, Pt.locs, Pt.cells, Pt.slots] at X1035r hS1035r hg1035r l1035 y1035 z1035 st1035 hQ1035 hC1035
     subst l1035 y1035 z1035
     obtain ⟨X1035, hS1035, hZ1035, ho1035⟩ := rebS (s := s) (vm0 := T1010.vm) (n1 := T1033.heap.size) hS1010 (by rw [e1033]; first | exact hk1010 | exact Nat.le_refl _) X1035r hS1035r hg1035r hZ1010 ho1010
     obtain ⟨h1035, e1035⟩ : ∃ h, T1035.heap = h := ⟨_, rfl⟩
     rw [e1035] at hQ1035
     obtain ⟨rfl, N1035q, K1035q, Q1035_0, Q1035_1, Q1035_2, Q1035_3, Q1035_4, Q1035_5, Q1035_6, Q1035_7⟩ := hQ1035
     have N1035 := Fr.app N1033 N1035q
     have Z1035 : n0 ≤ h1035.size := Nat.le_trans Z1010 K1035q.1
     have K1035 : Keep h0 h1035 [] := K1010.trans K1035q (fun x hx => by cases List.mem_singleton.mp hx; exact Or.inr sz_b973)
     have Sf1036 : Sta Z h1035 "java/lang/String" "COMPACT_STRINGS" "Z" (.int gc1) := own_sta_keep Sf1011 K1035q (own_ns1 (own_ns_exa Ef1023))
     have Sf1037 : Sta Z h1035 "jdk/internal/util/Preconditions" "SIOOBE_FORMATTER" "Ljava/util/function/BiFunction;" gf3 := own_sta_keep Sf1012 K1035q (own_ns1 (own_ns_exa Ef1023))
     have Sf1038 : Sta Z h1035 "java/util/Optional" "EMPTY" "Ljava/util/Optional;" (.ref s_EMPTY) := own_sta_keep Sf1013 K1035q (own_ns1 (own_ns_exa Ef1023))
     have Ef1039 : Exa Z h1035 s_EMPTY "java/util/Optional" := (Ef1014).keep K1035q
     have Ff1040 : Fld Z h1035 s_EMPTY "java/util/Optional" "value" "Ljava/lang/Object;" .null := (Ff1015).keep K1035q (fun q => absurd (List.mem_singleton.mp q) ne_s_EMPTY_b973)
     have Ef1041 : Exa Z h1035 b343 "java/lang/String" := (Ef1016).keep K1035q
     have Ff1042 : Fld Z h1035 b343 "java/lang/String" "value" "[B" (.ref b343b) := (Ff1017).keep K1035q (fun q => absurd (List.mem_singleton.mp q) ne_b343_b973)
     have Ff1043 : Fld Z h1035 b343 "java/lang/String" "coder" "B" (.int 0) := (Ff1018).keep K1035q (fun q => absurd (List.mem_singleton.mp q) ne_b343_b973)
     have Ef1044 : Exa Z h1035 b343b "[B" := (Ef1019).keep K1035q
     have Vf1045 : Arv Z h1035 b343b kb343b .byte (1 : Int32) ((([v294] : List Int32).map (fun c => c.toInt8.toInt32)).map Value.int) (.int 0) := (Vf1020).keep K1035q (fun q => absurd (List.mem_singleton.mp q) ne_b343b_b973)
     have Ef1046 : Exa Z h1035 b831 "java/util/Optional" := (Ef1021).keep K1035q
     have Ff1047 : Fld Z h1035 b831 "java/util/Optional" "value" "Ljava/lang/Object;" (.ref b343) := (Ff1022).keep K1035q (fun q => absurd (List.mem_singleton.mp q) ne_b831_b973)
     have Ef1048 : Exa Z h1035 b973 own_GU := (Ef1023).keep K1035q
     rw [e1035] at hC1035
     have CR1035 := CR1010.trans hC1035
     have hk1035 : T1035.heap.size ≤ h1035.size := by rw [e1035]; exact Nat.le_refl _
     have pre1049 : own_P p e below T1035 (mkF m 213 #[vI p0, vI p1, vI p2, vI p3, vI p4, vI v273, vI v279, vI v285, vI v291, vI v294, vI v297, vI v300, vI v303, vR b306, vR b343, vR b353, vR b831, vR s_EMPTY, vR b958, .unset, .unset] [(.ref b973)]) s₁ (own_E m p0 p1 p2 p3 p4) := fun t k => pre1034 t (st1035.trans k)
     have pre1050 : own_P p e below T1035 (mkF m 217 #[vI p0, vI p1, vI p2, vI p3, vI p4, vI v273, vI v279, vI v285, vI v291, vI v294, vI v297, vI v300, vI v303, vR b306, vR b343, vR b353, vR b831, vR s_EMPTY, vR b958, vR b973, .unset] [(.ref b973)]) s₁ (own_E m p0 p1 p2 p3 p4) := by
      intro t k
      refine pre1049 t ?_
      refine XS.astore X1035.here hx rfl (hb hby at_213) rfl rfl (l' := #[vI p0, vI p1, vI p2, vI p3, vI p4, vI v273, vI v279, vI v285, vI v291, vI v294, vI v297, vI v300, vI v303, vR b306, vR b343, vR b353, vR b831, vR s_EMPTY, vR b958, vR b973, .unset]) rfl ?_
      refine XS.aload X1035.here hx rfl (hb hby at_215) rfl rfl ?_
      exact k
     obtain ⟨cq1051, kq1051, q1051a, q1051b, q1051c⟩ := isOf hZ1035 e1035 Q1035_0
     obtain ⟨_, _, ⟨T1051, L1051, k1051, n1051⟩, -, X1051r, hS1051r, hg1051r, ⟨Lc1051, hQ1051, l1051, y1051, z1051, hC1051⟩, st1051⟩ := X1035.virtualBackS hx (y := (⟨own_GU, "effectiveType", "()Ljava/lang/String;"⟩ : MethodName)) (z := (⟨own_GU, "effectiveType", "()Ljava/lang/String;"⟩ : MethodName)) ho1035 (mvT hZ1035 (own_w hw 73 rfl)) (mvT hZ1035 (own_w hw 74 rfl)) (notFace_of_selects (args := #[]) (mvT hZ1035 (own_w hw 76 rfl))) (mvT hZ1035 (own_w hw 76 rfl)) (mvT hZ1035 (own_w hw 75 rfl)) (by decide) (backOfSH (W := 0) (rm10_y l Z ar0 hw [] b973 b831 b343 h1035 n0 Z1035 Q1035_0 Q1035_4 Ef1046 Ff1047 Ef1041) hZ1035 (own_w hw 77 rfl) (own_w hw 34 rfl) (by decide) (by decide) hEL CR1035.1) q1051a q1051c (g := (mkF m 217 #[vI p0, vI p1, vI p2, vI p3, vI p4, vI v273, vI v279, vI v285, vI v291, vI v294, vI v297, vI v300, vI v303, vR b306, vR b343, vR b353, vR b831, vR s_EMPTY, vR b958, vR b973, .unset] [(.ref b973)])) rfl (by rw [hml]; rfl) (Steps.refl _) (argsL := []) (rest := []) (lenOf pd_12 rfl) rfl (by show 2 * 0 + _ ≤ _; exact Nat.le_of_eq rfl) (hb hby at_217) (fun _ _ => ⟨rfl, e1035, (by decide : 26 + 2 ≤ _), (by decide : 266 + 8 ≤ _)⟩)
     dsimp only [Pt.U, Pt.locs, Pt.cells, Pt.slots] at X1051r hS1051r hg1051r l1051 y1051 z1051 st1051 hQ1051 hC1051
     subst l1051 y1051 z1051
     obtain ⟨X1051, hS1051, hZ1051, ho1051⟩ := rebS (s := s) (vm0 := T1035.vm) (n1 := T1035.heap.size) hS1035 (by rw [e1035]; first | exact hk1035 | exact Nat.le_refl _) X1051r hS1051r hg1051r hZ1035 ho1035
     obtain ⟨h1051, e1051⟩ : ∃ h, T1051.heap = h := ⟨_, rfl⟩
     rw [e1051] at hQ1051
     obtain ⟨rfl, N1051q, K1051q⟩ := hQ1051
     have N1051 := Fr.app N1035 N1051q
     have Z1051 : n0 ≤ h1051.size := Nat.le_trans Z1035 K1051q.1
     have K1051 : Keep h0 h1051 [] := K1035.trans K1051q (fun x hx => absurd hx List.not_mem_nil)
     have Sf1052 : Sta Z h1051 "java/lang/String" "COMPACT_STRINGS" "Z" (.int gc1) := own_sta_keep0 Sf1036 K1051q
     have Sf1053 : Sta Z h1051 "jdk/internal/util/Preconditions" "SIOOBE_FORMATTER" "Ljava/util/function/BiFunction;" gf3 := own_sta_keep0 Sf1037 K1051q
     have Sf1054 : Sta Z h1051 "java/util/Optional" "EMPTY" "Ljava/util/Optional;" (.ref s_EMPTY) := own_sta_keep0 Sf1038 K1051q
     have Ef1055 : Exa Z h1051 s_EMPTY "java/util/Optional" := (Ef1039).keep K1051q
     have Ff1056 : Fld Z h1051 s_EMPTY "java/util/Optional" "value" "Ljava/lang/Object;" .null := (Ff1040).keep K1051q List.not_mem_nil
     have Ef1057 : Exa Z h1051 b343 "java/lang/String" := (Ef1041).keep K1051q
     have Ff1058 : Fld Z h1051 b343 "java/lang/String" "value" "[B" (.ref b343b) := (Ff1042).keep K1051q List.not_mem_nil
     have Ff1059 : Fld Z h1051 b343 "java/lang/String" "coder" "B" (.int 0) := (Ff1043).keep K1051q List.not_mem_nil
     have Ef1060 : Exa Z h1051 b343b "[B" := (Ef1044).keep K1051q
     have Vf1061 : Arv Z h1051 b343b kb343b .byte (1 : Int32) ((([v294] : List Int32).map (fun c => c.toInt8.toInt32)).map Value.int) (.int 0) := (Vf1045).keep K1051q List.not_mem_nil
     have Ef1062 : Exa Z h1051 b831 "java/util/Optional" := (Ef1046).keep K1051q
     have Ff1063 : Fld Z h1051 b831 "java/util/Optional" "value" "Ljava/lang/Object;" (.ref b343) := (Ff1047).keep K1051q List.not_mem_nil
     have Ef1064 : Exa Z h1051 b973 own_GU := (Q1035_0).keep K1051q
     have Ff1065 : Fld Z h1051 b973 own_GU "text" "Ljava/lang/String;" (.ref a988) := (Q1035_1).keep K1051q List.not_mem_nil
     have Ff1066 : Fld Z h1051 b973 own_GU "host" "Ljava/lang/String;" (.ref a1010) := (Q1035_2).keep K1051q List.not_mem_nil
     have Ff1067 : Fld Z h1051 b973 own_GU "port" "Ljava/util/Optional;" (.ref b958) := (Q1035_3).keep K1051q List.not_mem_nil
     have Ff1068 : Fld Z h1051 b973 own_GU "type" "Ljava/util/Optional;" (.ref b831) := (Q1035_4).keep K1051q List.not_mem_nil
     have Ff1069 : Fld Z h1051 b973 own_GU "selector" "Ljava/lang/String;" (.ref b353) := (Q1035_5).keep K1051q List.not_mem_nil
     have Ff1070 : Fld Z h1051 b973 own_GU "search" "Ljava/util/Optional;" (.ref s_EMPTY) := (Q1035_6).keep K1051q List.not_mem_nil
     have Ff1071 : Fld Z h1051 b973 own_GU "gopherPlus" "Ljava/util/Optional;" (.ref s_EMPTY) := (Q1035_7).keep K1051q List.not_mem_nil
     rw [e1051] at hC1051
     have CR1051 := CR1035.trans hC1051
     have hk1051 : T1051.heap.size ≤ h1051.size := by rw [e1051]; exact Nat.le_refl _
     have pre1072 : own_P p e below T1051 (mkF m 220 #[vI p0, vI p1, vI p2, vI p3, vI p4, vI v273, vI v279, vI v285, vI v291, vI v294, vI v297, vI v300, vI v303, vR b306, vR b343, vR b353, vR b831, vR s_EMPTY, vR b958, vR b973, .unset] [(.ref b343)]) s₁ (own_E m p0 p1 p2 p3 p4) := fun t k => pre1050 t (st1051.trans k)
     have pre1073 : own_P p e below T1051 (mkF m 238 #[vI p0, vI p1, vI p2, vI p3, vI p4, vI v273, vI v279, vI v285, vI v291, vI v294, vI v297, vI v300, vI v303, vR b306, vR b343, vR b353, vR b831, vR s_EMPTY, vR b958, vR b973, vR b343] [(.ref b343), (.ref b343)]) s₁ (own_E m p0 p1 p2 p3 p4) := by
      intro t k
      refine pre1072 t ?_
      refine XS.astore X1051.here hx rfl (hb hby at_220) rfl rfl (l' := #[vI p0, vI p1, vI p2, vI p3, vI p4, vI v273, vI v279, vI v285, vI v291, vI v294, vI v297, vI v300, vI v303, vR b306, vR b343, vR b353, vR b831, vR s_EMPTY, vR b958, vR b973, vR b343]) rfl ?_
      refine XS.aload X1051.here hx rfl (hb hby at_222) rfl rfl ?_
      refine XS.ifnonnullYes X1051.here hx rfl (pc0 := 224) (pc' := 229) rfl (hb hby at_224) rfl (by decide) (by decide) ?_
      refine XS.iload X1051.here hx rfl (hb hby at_229) rfl ?_
      refine XS.ifNo X1051.here hx rfl (hb hby at_231) rfl ((if0 _ _).trans (feq hc139_368).1) ?_
      refine XS.aload X1051.here hx rfl (hb hby at_234) rfl rfl ?_
      refine XS.aload X1051.here hx rfl (hb hby at_236) rfl rfl ?_
      exact k
     obtain ⟨cq1074, kq1074, q1074a, q1074b, q1074c⟩ := isOf hZ1051 e1051 Ef1057
     obtain ⟨_, _, ⟨T1074, L1074, k1074, n1074⟩, -, X1074, ⟨Lc1074, hQ1074, l1074, y1074, z1074⟩, st1074⟩ := X1051.virtualBack hx (y := (⟨"java/lang/String", "equals", "(Ljava/lang/Object;)Z"⟩ : MethodName)) (z := (⟨"java/lang/String", "equals", "(Ljava/lang/Object;)Z"⟩ : MethodName)) ho1051 (mvT hZ1051 (own_w hw 148 rfl)) (mvT hZ1051 (own_w hw 149 rfl)) (notFace_of_selects (args := #[]) (mvT hZ1051 (own_w hw 151 rfl))) (mvT hZ1051 (own_w hw 151 rfl)) (mvT hZ1051 (own_w hw 150 rfl)) (by decide) (backOf (W := 0) (rm27_s l Z ar0 hw [] b343 h1051 n0 Z1051) hZ1051 (own_w hw 152 rfl) (own_w hw 3 rfl) (by decide) (by decide)) q1074a q1074c (g := (mkF m 238 #[vI p0, vI p1, vI p2, vI p3, vI p4, vI v273, vI v279, vI v285, vI v291, vI v294, vI v297, vI v300, vI v303, vR b306, vR b343, vR b353, vR b831, vR s_EMPTY, vR b958, vR b973, vR b343] [(.ref b343), (.ref b343)])) rfl (by rw [hml]; rfl) (Steps.refl _) (argsL := [(.ref b343)]) (rest := []) (lenOf pd_15 rfl) rfl (by show 2 * 0 + _ ≤ _; exact Nat.le_of_eq rfl) (hb hby at_238) (fun _ _ => ⟨rfl, e1051, (by decide : 28 + 0 ≤ _), (by decide : 274 + 0 ≤ _)⟩)
     dsimp only [Pt.U, Pt.locs, Pt.cells, Pt.slots] at X1074 l1074 y1074 z1074 st1074 hQ1074
     subst l1074 y1074 z1074
     obtain ⟨rfl, N1074q, e1074⟩ := hQ1074
     have N1074 := Fr.app N1051 N1074q
     have pre1075 : own_P p e below T1074 (mkF m 241 #[vI p0, vI p1, vI p2, vI p3, vI p4, vI v273, vI v279, vI v285, vI v291, vI v294, vI v297, vI v300, vI v303, vR b306, vR b343, vR b353, vR b831, vR s_EMPTY, vR b958, vR b973, vR b343] [(.int 1)]) s₁ (own_E m p0 p1 p2 p3 p4) := fun t k => pre1073 t (st1074.trans k)
     obtain ⟨fs, hr, hrun, hended, hRW⟩ := X1074.leaveW (s := s) (vm₁ := T1051.vm) hS1051 (by rw [e1074]; first | exact hk1051 | exact Nat.le_refl _) (v := some (.int 1)) (fun h => by rw [Bd.returns] at h; cases h)
     refine ⟨_, _, pre1075 _ ?_, hrun, hended, _, _, rfl, ?_, hRW.1, hRW.2.1, hRW.2.2.1, hRW.2.2.2.mono (by decide) (by decide)⟩
     ·
      exact retN X1074 hx (t := .boolean) Bd.returns (by simp) (hb hby at_241) hr
     ·
      show Q0 Z p0 p1 p2 p3 p4 gc1 gf3 s_EMPTY h0 n0 _ T1074.heap _
      rw [e1074]
      exact ⟨rfl, N1074⟩
   ·
    have pre1076 : ∀ t, Steps p.tables e below (T831.setTop (mkF m 162 #[vI p0, vI p1, vI p2, vI p3, vI p4, vI v273, vI v279, vI v285, vI v291, vI v294, vI v297, vI v300, vI v303, vR b306, vR b343, vR b353, vR b831, .unset, .unset, .unset, .unset] [(.ref b353)])) t → Steps p.tables e below (s₁.setTop (own_E m p0 p1 p2 p3 p4)) t := by
     intro t k
     refine pre843 t ?_
     refine XS.ifNo X831.here hx rfl (hb hby at_157) rfl ((if0 _ _).trans (feq hc157_844).1) ?_
     refine XS.aload X831.here hx rfl (hb hby at_160) rfl rfl ?_
     exact k
    obtain ⟨_, _, ⟨T1077, L1077, k1077, n1077⟩, -, X1077, ⟨Lc1077, hQ1077, l1077, y1077, z1077⟩, st1077⟩ := Jvm.LawKit.callS X831 hx (y := (⟨"java/util/Optional", "of", "(Ljava/lang/Object;)Ljava/util/Optional;"⟩ : MethodName)) hown (mvT hZ (own_w hw 135 rfl)) (mvT hZ (own_w hw 136 rfl)) (mvT hZ (own_w hw 29 rfl)) (mvT hZ (own_w hw 137 rfl)) (by decide) (backOf (W := 0) (rm24 l Z ar0 hw [] b353 h831 n0 Z831) hZ (own_w hw 137 rfl) (own_w hw 29 rfl) (by decide) (by decide)) (g := (mkF m 162 #[vI p0, vI p1, vI p2, vI p3, vI p4, vI v273, vI v279, vI v285, vI v291, vI v294, vI v297, vI v300, vI v303, vR b306, vR b343, vR b353, vR b831, .unset, .unset, .unset, .unset] [(.ref b353)])) rfl (by rw [hml]; rfl) (argsL := [(.ref b353)]) (rest := []) (lenOf pd_10 rfl) rfl (by show 2 * 0 + _ ≤ _; exact Nat.le_of_eq rfl) (hb hby at_162) (fun _ _ => ⟨rfl, e831, (by decide : 6 + 1 ≤ _), (by decide : 14 + 1 ≤ _)⟩)
    dsimp only [Pt.U, Pt.locs, Pt.cells, Pt.slots] at X1077 l1077 y1077 z1077 st1077 hQ1077
    subst l1077 y1077 z1077
    obtain ⟨h1077, e1077⟩ : ∃ h, T1077.heap = h := ⟨_, rfl⟩
    rw [e1077] at hQ1077
    obtain ⟨b1077, rfl, N1077q, K1077q, y_b1077, Ob1077_0, Ob1077_1⟩ := hQ1077
    have N1077 := Fr.app N831 N1077q
    have ne_s_EMPTY_b1077 : s_EMPTY ≠ b1077 := Nat.ne_of_lt (Nat.lt_of_lt_of_le (Ef835).lt y_b1077)
    have ne_b343_b1077 : b343 ≠ b1077 := Nat.ne_of_lt (Nat.lt_of_lt_of_le (Ef837).lt y_b1077)
    have ne_b343b_b1077 : b343b ≠ b1077 := Nat.ne_of_lt (Nat.lt_of_lt_of_le (Ef840).lt y_b1077)
    have ne_b831_b1077 : b831 ≠ b1077 := Nat.ne_of_lt (Nat.lt_of_lt_of_le (Ob831_0).lt y_b1077)
    have g_b1077 : n0 ≤ b1077 := Nat.le_trans Z831 y_b1077
    have sz_b1077 : h0.size ≤ b1077 := Nat.le_trans K831.1 y_b1077
    have Z1077 : n0 ≤ h1077.size := Nat.le_trans Z831 K1077q.1
    have hk1077 := Nat.le_trans hk831 K1077q.1
    have K1077 : Keep h0 h1077 [] := K831.trans K1077q (fun x hx => absurd hx List.not_mem_nil)
    have CR1077 := CR831.trans (CHr.keep K1077q sf0 CR831.1)
    have Sf1078 : Sta Z h1077 "java/lang/String" "COMPACT_STRINGS" "Z" (.int gc1) := own_sta_keep0 Sf832 K1077q
    have Sf1079 : Sta Z h1077 "jdk/internal/util/Preconditions" "SIOOBE_FORMATTER" "Ljava/util/function/BiFunction;" gf3 := own_sta_keep0 Sf833 K1077q
    have Sf1080 : Sta Z h1077 "java/util/Optional" "EMPTY" "Ljava/util/Optional;" (.ref s_EMPTY) := own_sta_keep0 Sf834 K1077q
    have Ef1081 : Exa Z h1077 s_EMPTY "java/util/Optional" := (Ef835).keep K1077q
    have Ff1082 : Fld Z h1077 s_EMPTY "java/util/Optional" "value" "Ljava/lang/Object;" .null := (Ff836).keep K1077q List.not_mem_nil
    have Ef1083 : Exa Z h1077 b343 "java/lang/String" := (Ef837).keep K1077q
    have Ff1084 : Fld Z h1077 b343 "java/lang/String" "value" "[B" (.ref b343b) := (Ff838).keep K1077q List.not_mem_nil
    have Ff1085 : Fld Z h1077 b343 "java/lang/String" "coder" "B" (.int 0) := (Ff839).keep K1077q List.not_mem_nil
    have Ef1086 : Exa Z h1077 b343b "[B" := (Ef840).keep K1077q
    have Vf1087 : Arv Z h1077 b343b kb343b .byte (1 : Int32) ((([v294] : List Int32).map (fun c => c.toInt8.toInt32)).map Value.int) (.int 0) := (Vf841).keep K1077q List.not_mem_nil
    have Ef1088 : Exa Z h1077 b831 "java/util/Optional" := (Ob831_0).keep K1077q
    have Ff1089 : Fld Z h1077 b831 "java/util/Optional" "value" "Ljava/lang/Object;" (.ref b343) := (Ob831_1).keep K1077q List.not_mem_nil
    have pre1090 : own_P p e below T1077 (mkF m 165 #[vI p0, vI p1, vI p2, vI p3, vI p4, vI v273, vI v279, vI v285, vI v291, vI v294, vI v297, vI v300, vI v303, vR b306, vR b343, vR b353, vR b831, .unset, .unset, .unset, .unset] [(.ref b1077)]) s₁ (own_E m p0 p1 p2 p3 p4) := fun t k => pre1076 t (st1077 t k)
    have pre1091 : own_P p e below T1077 (mkF m 175 #[vI p0, vI p1, vI p2, vI p3, vI p4, vI v273, vI v279, vI v285, vI v291, vI v294, vI v297, vI v300, vI v303, vR b306, vR b343, vR b353, vR b831, vR b1077, .unset, .unset, .unset] [(.int v291)]) s₁ (own_E m p0 p1 p2 p3 p4) := by
     intro t k
     refine pre1090 t ?_
     refine XS.goto X1077.here hx rfl (pc0 := 165) (pc' := 171) rfl (hb hby at_165) (by decide) (by decide) ?_
     refine XS.astore X1077.here hx rfl (hb hby at_171) rfl rfl (l' := #[vI p0, vI p1, vI p2, vI p3, vI p4, vI v273, vI v279, vI v285, vI v291, vI v294, vI v297, vI v300, vI v303, vR b306, vR b343, vR b353, vR b831, vR b1077, .unset, .unset, .unset]) rfl ?_
     refine XS.iload X1077.here hx rfl (hb hby at_173) rfl ?_
     exact k
    by_cases hc175_1092 : v291 = (0 : Int32)
    ·
     have pre1093 : ∀ t, Steps p.tables e below (T1077.setTop (mkF m 186 #[vI p0, vI p1, vI p2, vI p3, vI p4, vI v273, vI v279, vI v285, vI v291, vI v294, vI v297, vI v300, vI v303, vR b306, vR b343, vR b353, vR b831, vR b1077, .unset, .unset, .unset] [])) t → Steps p.tables e below (s₁.setTop (own_E m p0 p1 p2 p3 p4)) t := by
      intro t k
      refine pre1091 t ?_
      refine XS.ifYes X1077.here hx rfl (pc0 := 175) (pc' := 186) rfl (hb hby at_175) rfl ((if0 _ _).trans (teq hc175_1092).1) (by decide) (by decide) ?_
      exact k
     obtain ⟨_, _, ⟨T1094, L1094, k1094, n1094⟩, -, X1094, ⟨Lc1094, hQ1094, l1094, y1094, z1094⟩, st1094⟩ := Jvm.LawKit.callS X1077 hx (y := (⟨"java/util/Optional", "empty", "()Ljava/util/Optional;"⟩ : MethodName)) hown (mvT hZ (own_w hw 27 rfl)) (mvT hZ (own_w hw 28 rfl)) (mvT hZ (own_w hw 29 rfl)) (mvT hZ (own_w hw 30 rfl)) (by decide) (backOf (W := 0) (rm6 l Z ar0 hw [] s_EMPTY h1077 n0 Z1077 Sf1080) hZ (own_w hw 30 rfl) (own_w hw 29 rfl) (by decide) (by decide)) (g := (mkF m 186 #[vI p0, vI p1, vI p2, vI p3, vI p4, vI v273, vI v279, vI v285, vI v291, vI v294, vI v297, vI v300, vI v303, vR b306, vR b343, vR b353, vR b831, vR b1077, .unset, .unset, .unset] [])) rfl (by rw [hml]; rfl) (argsL := []) (rest := []) (lenOf pd_9 rfl) rfl (by show 2 * 0 + _ ≤ _; exact Nat.le_of_eq rfl) (hb hby at_186) (fun _ _ => ⟨rfl, e1077, (by decide : 7 + 0 ≤ _), (by decide : 15 + 0 ≤ _)⟩)
     dsimp only [Pt.U, Pt.locs, Pt.cells, Pt.slots] at X1094 l1094 y1094 z1094 st1094 hQ1094
     subst l1094 y1094 z1094
     obtain ⟨rfl, N1094q, e1094⟩ := hQ1094
     have N1094 := Fr.app N1077 N1094q
     have pre1095 : own_P p e below T1094 (mkF m 189 #[vI p0, vI p1, vI p2, vI p3, vI p4, vI v273, vI v279, vI v285, vI v291, vI v294, vI v297, vI v300, vI v303, vR b306, vR b343, vR b353, vR b831, vR b1077, .unset, .unset, .unset] [(.ref s_EMPTY)]) s₁ (own_E m p0 p1 p2 p3 p4) := fun t k => pre1093 t (st1094 t k)
     have pre1096 : own_P p e below T1094 (mkF m 191 #[vI p0, vI p1, vI p2, vI p3, vI p4, vI v273, vI v279, vI v285, vI v291, vI v294, vI v297, vI v300, vI v303, vR b306, vR b343, vR b353, vR b831, vR b1077, vR s_EMPTY, .unset, .unset] []) s₁ (own_E m p0 p1 p2 p3 p4) := by
      intro t k
      refine pre1095 t ?_
      refine XS.astore X1094.here hx rfl (hb hby at_189) rfl rfl (l' := #[vI p0, vI p1, vI p2, vI p3, vI p4, vI v273, vI v279, vI v285, vI v291, vI v294, vI v297, vI v300, vI v303, vR b306, vR b343, vR b353, vR b831, vR b1077, vR s_EMPTY, .unset, .unset]) rfl ?_
      exact k
     obtain ⟨T1097, h1097, X1097, e1097, E1097, A1097, D1097, -, st1097⟩ := newO X1094 hx hZ hown (own_w hw 32 rfl) (own_w hw 33 rfl) (own_w hw 34 rfl) e1094 (g := (mkF m 191 #[vI p0, vI p1, vI p2, vI p3, vI p4, vI v273, vI v279, vI v285, vI v291, vI v294, vI v297, vI v300, vI v303, vR b306, vR b343, vR b353, vR b831, vR b1077, vR s_EMPTY, .unset, .unset] [])) rfl (hb hby at_191) (by decide) (by decide)
     obtain ⟨b1097, g1097⟩ : ∃ z, z = h1077.size := ⟨_, rfl⟩
     rw [← g1097] at A1097 D1097 st1097
     have ne_s_EMPTY_b1097 : s_EMPTY ≠ b1097 := Nat.ne_of_lt (Nat.lt_of_lt_of_le (Ef1081).lt (Nat.le_of_eq g1097.symm))
     have ne_b343_b1097 : b343 ≠ b1097 := Nat.ne_of_lt (Nat.lt_of_lt_of_le (Ef1083).lt (Nat.le_of_eq g1097.symm))
     have ne_b343b_b1097 : b343b ≠ b1097 := Nat.ne_of_lt (Nat.lt_of_lt_of_le (Ef1086).lt (Nat.le_of_eq g1097.symm))
     have ne_b831_b1097 : b831 ≠ b1097 := Nat.ne_of_lt (Nat.lt_of_lt_of_le (Ef1088).lt (Nat.le_of_eq g1097.symm))
     have g_b1097 : n0 ≤ b1097 := Nat.le_trans Z1077 (Nat.le_of_eq g1097.symm)
     have sz_b1097 : h0.size ≤ b1097 := Nat.le_trans K1077.1 (Nat.le_of_eq g1097.symm)
     have Z1097 : n0 ≤ h1097.size := Nat.le_trans Z1077 E1097.1
     have K1097 : Keep h0 h1097 [] := K1077.ext E1097
     have hk1097 := Nat.le_trans hk1077 E1097.1
     have CR1097 := CR1077.trans (CHr.ext E1097 CR1077.1)
     have Sf1098 : Sta Z h1097 "java/lang/String" "COMPACT_STRINGS" "Z" (.int gc1) := (Sf1078).ext E1097
     have Sf1099 : Sta Z h1097 "jdk/internal/util/Preconditions" "SIOOBE_FORMATTER" "Ljava/util/function/BiFunction;" gf3 := (Sf1079).ext E1097
     have Sf1100 : Sta Z h1097 "java/util/Optional" "EMPTY" "Ljava/util/Optional;" (.ref s_EMPTY) := (Sf1080).ext E1097
     have Ef1101 : Exa Z h1097 s_EMPTY "java/util/Optional" := (Ef1081).ext E1097
     have Ff1102 : Fld Z h1097 s_EMPTY "java/util/Optional" "value" "Ljava/lang/Object;" .null := (Ff1082).ext E1097
     have Ef1103 : Exa Z h1097 b343 "java/lang/String" := (Ef1083).ext E1097
     have Ff1104 : Fld Z h1097 b343 "java/lang/String" "value" "[B" (.ref b343b) := (Ff1084).ext E1097
     have Ff1105 : Fld Z h1097 b343 "java/lang/String" "coder" "B" (.int 0) := (Ff1085).ext E1097
     have Ef1106 : Exa Z h1097 b343b "[B" := (Ef1086).ext E1097
     have Vf1107 : Arv Z h1097 b343b kb343b .byte (1 : Int32) ((([v294] : List Int32).map (fun c => c.toInt8.toInt32)).map Value.int) (.int 0) := (Vf1087).ext E1097
     have Ef1108 : Exa Z h1097 b831 "java/util/Optional" := (Ef1088).ext E1097
     have Ff1109 : Fld Z h1097 b831 "java/util/Optional" "value" "Ljava/lang/Object;" (.ref b343) := (Ff1089).ext E1097
     have Ftext_b1097 : Fld Z h1097 b1097 own_GU "text" "Ljava/lang/String;" .null := D1097 (Or.inr (own_w hw 60 rfl)) (ty := (.object "java/lang/String")) (by decide)
     have Fhost_b1097 : Fld Z h1097 b1097 own_GU "host" "Ljava/lang/String;" .null := D1097 (Or.inr (own_w hw 62 rfl)) (ty := (.object "java/lang/String")) (by decide)
     have Fport_b1097 : Fld Z h1097 b1097 own_GU "port" "Ljava/util/Optional;" .null := D1097 (Or.inr (own_w hw 64 rfl)) (ty := (.object "java/util/Optional")) (by decide)
     have Ftype_b1097 : Fld Z h1097 b1097 own_GU "type" "Ljava/util/Optional;" .null := D1097 (Or.inr (own_w hw 66 rfl)) (ty := (.object "java/util/Optional")) (by decide)
     have Fselector_b1097 : Fld Z h1097 b1097 own_GU "selector" "Ljava/lang/String;" .null := D1097 (Or.inr (own_w hw 68 rfl)) (ty := (.object "java/lang/String")) (by decide)
     have Fsearch_b1097 : Fld Z h1097 b1097 own_GU "search" "Ljava/util/Optional;" .null := D1097 (Or.inr (own_w hw 70 rfl)) (ty := (.object "java/util/Optional")) (by decide)
     have FgopherPlus_b1097 : Fld Z h1097 b1097 own_GU "gopherPlus" "Ljava/util/Optional;" .null := D1097 (Or.inr (own_w hw 72 rfl)) (ty := (.object "java/util/Optional")) (by decide)
     have pre1110 : own_P p e below T1097 (mkF m 194 #[vI p0, vI p1, vI p2, vI p3, vI p4, vI v273, vI v279, vI v285, vI v291, vI v294, vI v297, vI v300, vI v303, vR b306, vR b343, vR b353, vR b831, vR b1077, vR s_EMPTY, .unset, .unset] [(.ref b1097)]) s₁ (own_E m p0 p1 p2 p3 p4) := fun t k => pre1096 t (st1097 t k)
     have pre1111 : own_P p e below T1097 (mkF m 195 #[vI p0, vI p1, vI p2, vI p3, vI p4, vI v273, vI v279, vI v285, vI v291, vI v294, vI v297, vI v300, vI v303, vR b306, vR b343, vR b353, vR b831, vR b1077, vR s_EMPTY, .unset, .unset] [(.ref b1097), (.ref b1097)]) s₁ (own_E m p0 p1 p2 p3 p4) := by
      intro t k
      refine pre1110 t ?_
      refine XS.dup X1097.here hx rfl (hb hby at_194) rfl rfl ?_
      exact k
     obtain ⟨a1112, T1112, h1112, k1112, X1112, e1112, E1112, hS1112, hk1112, hZ1112, ho1112, hC1112, -, st1112⟩ := ldcOH (s := s) (vm0 := s.vm) X1097 hx hZ hown (own_w hw 35 rfl) (own_strW hw) e1097 hS0 hk1097 hEL CR1097.1 (g := (mkF m 195 #[vI p0, vI p1, vI p2, vI p3, vI p4, vI v273, vI v279, vI v285, vI v291, vI v294, vI v297, vI v300, vI v303, vR b306, vR b343, vR b353, vR b831, vR b1077, vR s_EMPTY, .unset, .unset] [(.ref b1097), (.ref b1097)])) rfl (hb hby at_195) (n := 44) (by decide) (by decide) (by decide) (by decide)
     have CR1112 := CR1097.trans hC1112
     have Z1112 : n0 ≤ h1112.size := Nat.le_trans Z1097 E1112.1
     have K1112 : Keep h0 h1112 [] := K1097.ext E1112
     have Sf1113 : Sta Z h1112 "java/lang/String" "COMPACT_STRINGS" "Z" (.int gc1) := (Sf1098).ext E1112
     have Sf1114 : Sta Z h1112 "jdk/internal/util/Preconditions" "SIOOBE_FORMATTER" "Ljava/util/function/BiFunction;" gf3 := (Sf1099).ext E1112
     have Sf1115 : Sta Z h1112 "java/util/Optional" "EMPTY" "Ljava/util/Optional;" (.ref s_EMPTY) := (Sf1100).ext E1112
     have Ef1116 : Exa Z h1112 s_EMPTY "java/util/Optional" := (Ef1101).ext E1112
     have Ff1117 : Fld Z h1112 s_EMPTY "java/util/Optional" "value" "Ljava/lang/Object;" .null := (Ff1102).ext E1112
     have Ef1118 : Exa Z h1112 b343 "java/lang/String" := (Ef1103).ext E1112
     have Ff1119 : Fld Z h1112 b343 "java/lang/String" "value" "[B" (.ref b343b) := (Ff1104).ext E1112
     have Ff1120 : Fld Z h1112 b343 "java/lang/String" "coder" "B" (.int 0) := (Ff1105).ext E1112
     have Ef1121 : Exa Z h1112 b343b "[B" := (Ef1106).ext E1112
     have Vf1122 : Arv Z h1112 b343b kb343b .byte (1 : Int32) ((([v294] : List Int32).map (fun c => c.toInt8.toInt32)).map Value.int) (.int 0) := (Vf1107).ext E1112
     have Ef1123 : Exa Z h1112 b831 "java/util/Optional" := (Ef1108).ext E1112
     have Ff1124 : Fld Z h1112 b831 "java/util/Optional" "value" "Ljava/lang/Object;" (.ref b343) := (Ff1109).ext E1112
     have Ef1125 : Exa Z h1112 b1097 own_GU := (A1097).ext E1112
     have Ff1126 : Fld Z h1112 b1097 own_GU "text" "Ljava/lang/String;" .null := (Ftext_b1097).ext E1112
     have Ff1127 : Fld Z h1112 b1097 own_GU "host" "Ljava/lang/String;" .null := (Fhost_b1097).ext E1112
     have Ff1128 : Fld Z h1112 b1097 own_GU "port" "Ljava/util/Optional;" .null := (Fport_b1097).ext E1112
     have Ff1129 : Fld Z h1112 b1097 own_GU "type" "Ljava/util/Optional;" .null := (Ftype_b1097).ext E1112
     have Ff1130 : Fld Z h1112 b1097 own_GU "selector" "Ljava/lang/String;" .null := (Fselector_b1097).ext E1112
     have Ff1131 : Fld Z h1112 b1097 own_GU "search" "Ljava/util/Optional;" .null := (Fsearch_b1097).ext E1112
     have Ff1132 : Fld Z h1112 b1097 own_GU "gopherPlus" "Ljava/util/Optional;" .null := (FgopherPlus_b1097).ext E1112
     have pre1133 : own_P p e below T1112 (mkF m 197 #[vI p0, vI p1, vI p2, vI p3, vI p4, vI v273, vI v279, vI v285, vI v291, vI v294, vI v297, vI v300, vI v303, vR b306, vR b343, vR b353, vR b831, vR b1077, vR s_EMPTY, .unset, .unset] [(.ref a1112), (.ref b1097), (.ref b1097)]) s₁ (own_E m p0 p1 p2 p3 p4) := fun t k => pre1111 t (st1112 t k)
     obtain ⟨a1134, T1134, h1134, k1134, X1134, e1134, E1134, hS1134, hk1134, hZ1134, ho1134, hC1134, -, st1134⟩ := ldcOH (s := s) (vm0 := T1112.vm) X1112 hx hZ1112 ho1112 (own_w hw 38 rfl) (own_strW hw) e1112 hS1112 hk1112 hEL CR1112.1 (g := (mkF m 197 #[vI p0, vI p1, vI p2, vI p3, vI p4, vI v273, vI v279, vI v285, vI v291, vI v294, vI v297, vI v300, vI v303, vR b306, vR b343, vR b353, vR b831, vR b1077, vR s_EMPTY, .unset, .unset] [(.ref a1112), (.ref b1097), (.ref b1097)])) rfl (hb hby at_197) (n := 4) (by decide) (by decide) (by decide) (by decide)
     have CR1134 := CR1112.trans hC1134
     have Z1134 : n0 ≤ h1134.size := Nat.le_trans Z1112 E1134.1
     have K1134 : Keep h0 h1134 [] := K1112.ext E1134
     have Sf1135 : Sta Z h1134 "java/lang/String" "COMPACT_STRINGS" "Z" (.int gc1) := (Sf1113).ext E1134
     have Sf1136 : Sta Z h1134 "jdk/internal/util/Preconditions" "SIOOBE_FORMATTER" "Ljava/util/function/BiFunction;" gf3 := (Sf1114).ext E1134
     have Sf1137 : Sta Z h1134 "java/util/Optional" "EMPTY" "Ljava/util/Optional;" (.ref s_EMPTY) := (Sf1115).ext E1134
     have Ef1138 : Exa Z h1134 s_EMPTY "java/util/Optional" := (Ef1116).ext E1134
     have Ff1139 : Fld Z h1134 s_EMPTY "java/util/Optional" "value" "Ljava/lang/Object;" .null := (Ff1117).ext E1134
     have Ef1140 : Exa Z h1134 b343 "java/lang/String" := (Ef1118).ext E1134
     have Ff1141 : Fld Z h1134 b343 "java/lang/String" "value" "[B" (.ref b343b) := (Ff1119).ext E1134
     have Ff1142 : Fld Z h1134 b343 "java/lang/String" "coder" "B" (.int 0) := (Ff1120).ext E1134
     have Ef1143 : Exa Z h1134 b343b "[B" := (Ef1121).ext E1134
     have Vf1144 : Arv Z h1134 b343b kb343b .byte (1 : Int32) ((([v294] : List Int32).map (fun c => c.toInt8.toInt32)).map Value.int) (.int 0) := (Vf1122).ext E1134
     have Ef1145 : Exa Z h1134 b831 "java/util/Optional" := (Ef1123).ext E1134
     have Ff1146 : Fld Z h1134 b831 "java/util/Optional" "value" "Ljava/lang/Object;" (.ref b343) := (Ff1124).ext E1134
     have Ef1147 : Exa Z h1134 b1097 own_GU := (Ef1125).ext E1134
     have Ff1148 : Fld Z h1134 b1097 own_GU "text" "Ljava/lang/String;" .null := (Ff1126).ext E1134
     have Ff1149 : Fld Z h1134 b1097 own_GU "host" "Ljava/lang/String;" .null := (Ff1127).ext E1134
     have Ff1150 : Fld Z h1134 b1097 own_GU "port" "Ljava/util/Optional;" .null := (Ff1128).ext E1134
     have Ff1151 : Fld Z h1134 b1097 own_GU "type" "Ljava/util/Optional;" .null := (Ff1129).ext E1134
     have Ff1152 : Fld Z h1134 b1097 own_GU "selector" "Ljava/lang/String;" .null := (Ff1130).ext E1134
     have Ff1153 : Fld Z h1134 b1097 own_GU "search" "Ljava/util/Optional;" .null := (Ff1131).ext E1134
     have Ff1154 : Fld Z h1134 b1097 own_GU "gopherPlus" "Ljava/util/Optional;" .null := (Ff1132).ext E1134
     have pre1155 : own_P p e below T1134 (mkF m 199 #[vI p0, vI p1, vI p2, vI p3, vI p4, vI v273, vI v279, vI v285, vI v291, vI v294, vI v297, vI v300, vI v303, vR b306, vR b343, vR b353, vR b831, vR b1077, vR s_EMPTY, .unset, .unset] [(.ref a1134), (.ref a1112), (.ref b1097), (.ref b1097)]) s₁ (own_E m p0 p1 p2 p3 p4) := fun t k => pre1133 t (st1134 t k)
     have pre1156 : own_P p e below T1134 (mkF m 207 #[vI p0, vI p1, vI p2, vI p3, vI p4, vI v273, vI v279, vI v285, vI v291, vI v294, vI v297, vI v300, vI v303, vR b306, vR b343, vR b353, vR b831, vR b1077, vR s_EMPTY, .unset, .unset] [(.ref b1077), (.ref b353), (.ref b831), (.ref s_EMPTY), (.ref a1134), (.ref a1112), (.ref b1097), (.ref b1097)]) s₁ (own_E m p0 p1 p2 p3 p4) := by
      intro t k
      refine pre1155 t ?_
      refine XS.aload X1134.here hx rfl (hb hby at_199) rfl rfl ?_
      refine XS.aload X1134.here hx rfl (hb hby at_201) rfl rfl ?_
      refine XS.aload X1134.here hx rfl (hb hby at_203) rfl rfl ?_
      refine XS.aload X1134.here hx rfl (hb hby at_205) rfl rfl ?_
      exact k
     obtain ⟨_, _, ⟨T1157, L1157, k1157, n1157⟩, -, X1157, ⟨Lc1157, hQ1157, l1157, y1157, z1157⟩, st1157⟩ := Jvm.LawKit.callS X1134 hx (y := (⟨"java/util/Optional", "empty", "()Ljava/util/Optional;"⟩ : MethodName)) ho1134 (mvT hZ1134 (own_w hw 27 rfl)) (mvT hZ1134 (own_w hw 28 rfl)) (mvT hZ1134 (own_w hw 29 rfl)) (mvT hZ1134 (own_w hw 30 rfl)) (by decide) (backOf (W := 8) (rm6 l Z ar0 hw [] s_EMPTY h1134 n0 Z1134 Sf1137) hZ1134 (own_w hw 30 rfl) (own_w hw 29 rfl) (by decide) (by decide)) (g := (mkF m 207 #[vI p0, vI p1, vI p2, vI p3, vI p4, vI v273, vI v279, vI v285, vI v291, vI v294, vI v297, vI v300, vI v303, vR b306, vR b343, vR b353, vR b831, vR b1077, vR s_EMPTY, .unset, .unset] [(.ref b1077), (.ref b353), (.ref b831), (.ref s_EMPTY), (.ref a1134), (.ref a1112), (.ref b1097), (.ref b1097)])) rfl (by rw [hml]; rfl) (argsL := []) (rest := [(.ref b1077), (.ref b353), (.ref b831), (.ref s_EMPTY), (.ref a1134), (.ref a1112), (.ref b1097), (.ref b1097)]) (lenOf pd_9 rfl) rfl (by show 2 * 0 + _ ≤ _; exact Nat.le_of_eq rfl) (hb hby at_207) (fun _ _ => ⟨rfl, e1134, (by decide : 12 + 0 ≤ _), (by decide : 78 + 0 ≤ _)⟩)
     dsimp only [Pt.U, Pt.locs, Pt.cells, Pt.slots] at X1157 l1157 y1157 z1157 st1157 hQ1157
     subst l1157 y1157 z1157
     obtain ⟨rfl, N1157q, e1157⟩ := hQ1157
     have N1157 := Fr.app N1094 N1157q
     have pre1158 : own_P p e below T1157 (mkF m 210 #[vI p0, vI p1, vI p2, vI p3, vI p4, vI v273, vI v279, vI v285, vI v291, vI v294, vI v297, vI v300, vI v303, vR b306, vR b343, vR b353, vR b831, vR b1077, vR s_EMPTY, .unset, .unset] [(.ref s_EMPTY), (.ref b1077), (.ref b353), (.ref b831), (.ref s_EMPTY), (.ref a1134), (.ref a1112), (.ref b1097), (.ref b1097)]) s₁ (own_E m p0 p1 p2 p3 p4) := fun t k => pre1156 t (st1157 t k)
     obtain ⟨_, _, ⟨T1159, L1159, k1159, n1159⟩, -, X1159r, hS1159r, hg1159r, ⟨Lc1159, hQ1159, l1159, y1159, z1159, hC1159⟩, st1159⟩ := X1157.specialBackS hx (y := (⟨own_GU, "<init>", "(Ljava/lang/String;Ljava/lang/String;Ljava/util/Optional;Ljava/util/Optional;Ljava/lang/String;Ljava/util/Optional;Ljava/util/Optional;)V"⟩ : MethodName)) rfl ho1134 (mvT hZ1134 (own_w hw 39 rfl)) (mvT hZ1134 (own_w hw 40 rfl)) (mvT hZ1134 (own_w hw 41 rfl)) (by decide) (backOfSH (W := 1) (rm7 l Z ar0 hw [] b1097 a1112 a1134 s_EMPTY b831 b353 b1077 s_EMPTY .null .null .null .null .null .null .null h1134 n0 Z1134 Ef1147 Ff1148 Ff1149 Ff1150 Ff1151 Ff1152 Ff1153 Ff1154 g_b1097) hZ1134 (own_w hw 41 rfl) (own_w hw 34 rfl) (by decide) (by decide) hEL CR1134.1) (g := (mkF m 210 #[vI p0, vI p1, vI p2, vI p3, vI p4, vI v273, vI v279, vI v285, vI v291, vI v294, vI v297, vI v300, vI v303, vR b306, vR b343, vR b353, vR b831, vR b1077, vR s_EMPTY, .unset, .unset] [(.ref s_EMPTY), (.ref b1077), (.ref b353), (.ref b831), (.ref s_EMPTY), (.ref a1134), (.ref a1112), (.ref b1097), (.ref b1097)])) rfl (by rw [hml]; rfl) (Steps.refl _) (a := b1097) (argsL := [(.ref a1112), (.ref a1134), (.ref s_EMPTY), (.ref b831), (.ref b353), (.ref b1077), (.ref s_EMPTY)]) (rest := [(.ref b1097)]) (lenOf pd_11 rfl) rfl (by show 2 * 0 + _ ≤ _; exact Nat.le_of_eq rfl) (hb hby at_210) (fun _ _ => ⟨rfl, e1157, (by decide : 12 + 14 ≤ _), (by decide : 78 + 188 ≤ _)⟩)
     dsimp only [Pt.U, Pt.locs, Pt.cells, Pt.slots] at X1159r hS1159r hg1159r l1159 y1159 z1159 st1159 hQ1159 hC1159
     subst l1159 y1159 z1159
     obtain ⟨X1159, hS1159, hZ1159, ho1159⟩ := rebS (s := s) (vm0 := T1134.vm) (n1 := T1157.heap.size) hS1134 (by rw [e1157]; first | exact hk1134 | exact Nat.le_refl _) X1159r hS1159r hg1159r hZ1134 ho1134
     obtain ⟨h1159, e1159⟩ : ∃ h, T1159.heap = h := ⟨_, rfl⟩
     rw [e1159] at hQ1159
     obtain ⟨rfl, N1159q, K1159q, Q1159_0, Q1159_1, Q1159_2, Q1159_3, Q1159_4, Q1159_5, Q1159_6, Q1159_7⟩ := hQ1159
     have N1159 := Fr.app N1157 N1159q
     have Z1159 : n0 ≤ h1159.size := Nat.le_trans Z1134 K1159q.1
     have K1159 : Keep h0 h1159 [] := K1134.trans K1159q (fun x hx => by cases List.mem_singleton.mp hx; exact Or.inr sz_b1097)
     have Sf1160 : Sta Z h1159 "java/lang/String" "COMPACT_STRINGS" "Z" (.int gc1) := own_sta_keep Sf1135 K1159q (own_ns1 (own_ns_exa Ef1147))
     have Sf1161 : Sta Z h1159 "jdk/internal/util/Preconditions" "SIOOBE_FORMATTER" "Ljava/util/function/BiFunction;" gf3 := own_sta_keep Sf1136 K1159q (own_ns1 (own_ns_exa Ef1147))
     have Sf1162 : Sta Z h1159 "java/util/Optional" "EMPTY" "Ljava/util/Optional;" (.ref s_EMPTY) := own_sta_keep Sf1137 K1159q (own_ns1 (own_ns_exa Ef1147))
     have Ef1163 : Exa Z h1159 s_EMPTY "java/util/Optional" := (Ef1138).keep K1159q
     have Ff1164 : Fld Z h1159 s_EMPTY "java/util/Optional" "value" "Ljava/lang/Object;" .null := (Ff1139).keep K1159q (fun q => absurd (List.mem_singleton.mp q) ne_s_EMPTY_b1097)
     have Ef1165 : Exa Z h1159 b343 "java/lang/String" := (Ef1140).keep K1159q
     have Ff1166 : Fld Z h1159 b343 "java/lang/String" "value" "[B" (.ref b343b) := (Ff1141).keep K1159q (fun q => absurd (List.mem_singleton.mp q) ne_b343_b1097)
     have Ff1167 : Fld Z h1159 b343 "java/lang/String" "coder" "B" (.int 0) := (Ff1142).keep K1159q (fun q => absurd (List.mem_singleton.mp q) ne_b343_b1097)
     have Ef1168 : Exa Z h1159 b343b "[B" := (Ef1143).keep K1159q
     have Vf1169 : Arv Z h1159 b343b kb343b .byte (1 : Int32) ((([v294] : List Int32).map (fun c => c.toInt8.toInt32)).map Value.int) (.int 0) := (Vf1144).keep K1159q (fun q => absurd (List.mem_singleton.mp q) ne_b343b_b1097)
     have Ef1170 : Exa Z h1159 b831 "java/util/Optional" := (Ef1145).keep K1159q
     have Ff1171 : Fld Z h1159 b831 "java/util/Optional" "value" "Ljava/lang/Object;" (.ref b343) := (Ff1146).keep K1159q (fun q => absurd (List.mem_singleton.mp q) ne_b831_b1097)
     have Ef1172 : Exa Z h1159 b1097 own_GU := (Ef1147).keep K1159q
     rw [e1159] at hC1159
     have CR1159 := CR1134.trans hC1159
     have hk1159 : T1159.heap.size ≤ h1159.size := by rw [e1159]; exact Nat.le_refl _
     have pre1173 : own_P p e below T1159 (mkF m 213 #[vI p0, vI p1, vI p2, vI p3, vI p4, vI v273, vI v279, vI v285, vI v291, vI v294, vI v297, vI v300, vI v303, vR b306, vR b343, vR b353, vR b831, vR b1077, vR s_EMPTY, .unset, .unset] [(.ref b1097)]) s₁ (own_E m p0 p1 p2 p3 p4) := fun t k => pre1158 t (st1159.trans k)
     have pre1174 : own_P p e below T1159 (mkF m 217 #[vI p0, vI p1, vI p2, vI p3, vI p4, vI v273, vI v279, vI v285, vI v291, vI v294, vI v297, vI v300, vI v303, vR b306, vR b343, vR b353, vR b831, vR b1077, vR s_EMPTY, vR b1097, .unset] [(.ref b1097)]) s₁ (own_E m p0 p1 p2 p3 p4) := by
      intro t k
      refine pre1173 t ?_
      refine XS.astore X1159.here hx rfl (hb hby at_213) rfl rfl (l' := #[vI p0, vI p1, vI p2, vI p3, vI p4, vI v273, vI v279, vI v285, vI v291, vI v294, vI v297, vI v300, vI v303, vR b306, vR b343, vR b353, vR b831, vR b1077, vR s_EMPTY, vR b1097, .unset]) rfl ?_
      refine XS.aload X1159.here hx rfl (hb hby at_215) rfl rfl ?_
      exact k
     obtain ⟨cq1175, kq1175, q1175a, q1175b, q1175c⟩ := isOf hZ1159 e1159 Q1159_0
     obtain ⟨_, _, ⟨T1175, L1175, k1175, n1175⟩, -, X1175r, hS1175r, hg1175r, ⟨Lc1175, hQ1175, l1175, y1175, z1175, hC1175⟩, st1175⟩ := X1159.virtualBackS hx (y := (⟨own_GU, "effectiveType", "()Ljava/lang/String;"⟩ : MethodName)) (z := (⟨own_GU, "effectiveType", "()Ljava/lang/String;"⟩ : MethodName)) ho1159 (mvT hZ1159 (own_w hw 73 rfl)) (mvT hZ1159 (own_w hw 74 rfl)) (notFace_of_selects (args := #[]) (mvT hZ1159 (own_w hw 76 rfl))) (mvT hZ1159 (own_w hw 76 rfl)) (mvT hZ1159 (own_w hw 75 rfl)) (by decide) (backOfSH (W := 0) (rm10_y l Z ar0 hw [] b1097 b831 b343 h1159 n0 Z1159 Q1159_0 Q1159_4 Ef1170 Ff1171 Ef1165) hZ1159 (own_w hw 77 rfl) (own_w hw 34 rfl) (by decide) (by decide) hEL CR1159.1) q1175a q1175c (g := (mkF m 217 #[vI p0, vI p1, vI p2, vI p3, vI p4, vI v273, vI v279, vI v285, vI v291, vI v294, vI v297, vI v300, vI v303, vR b306, vR b343, vR b353, vR b831, vR b1077, vR s_EMPTY, vR b1097, .unset] [(.ref b1097)])) rfl (by rw [hml]; rfl) (Steps.refl _) (argsL := []) (rest := []) (lenOf pd_12 rfl) rfl (by show 2 * 0 + _ ≤ _; exact Nat.le_of_eq rfl) (hb hby at_217) (fun _ _ => ⟨rfl, e1159, (by decide : 26 + 2 ≤ _), (by decide : 266 + 8 ≤ _)⟩)
     dsimp only [Pt.U, Pt.locs, Pt.cells, Pt.slots] at X1175r hS1175r hg1175r l1175 y1175 z1175 st1175 hQ1175 hC1175
     subst l1175 y1175 z1175
     obtain ⟨X1175, hS1175, hZ1175, ho1175⟩ := rebS (s := s) (vm0 := T1159.vm) (n1 := T1159.heap.size) hS1159 (by rw [e1159]; first | exact hk1159 | exact Nat.le_refl _) X1175r hS1175r hg1175r hZ1159 ho1159
     obtain ⟨h1175, e1175⟩ : ∃ h, T1175.heap = h := ⟨_, rfl⟩
     rw [e1175] at hQ1175
     obtain ⟨rfl, N1175q, K1175q⟩ := hQ1175
     have N1175 := Fr.app N1159 N1175q
     have Z1175 : n0 ≤ h1175.size := Nat.le_trans Z1159 K1175q.1
     have K1175 : Keep h0 h1175 [] := K1159.trans K1175q (fun x hx => absurd hx List.not_mem_nil)
     have Sf1176 : Sta Z h1175 "java/lang/String" "COMPACT_STRINGS" "Z" (.int gc1) := own_sta_keep0 Sf1160 K1175q
     have Sf1177 : Sta Z h1175 "jdk/internal/util/Preconditions" "SIOOBE_FORMATTER" "Ljava/util/function/BiFunction;" gf3 := own_sta_keep0 Sf1161 K1175q
     have Sf1178 : Sta Z h1175 "java/util/Optional" "EMPTY" "Ljava/util/Optional;" (.ref s_EMPTY) := own_sta_keep0 Sf1162 K1175q
     have Ef1179 : Exa Z h1175 s_EMPTY "java/util/Optional" := (Ef1163).keep K1175q
     have Ff1180 : Fld Z h1175 s_EMPTY "java/util/Optional" "value" "Ljava/lang/Object;" .null := (Ff1164).keep K1175q List.not_mem_nil
     have Ef1181 : Exa Z h1175 b343 "java/lang/String" := (Ef1165).keep K1175q
     have Ff1182 : Fld Z h1175 b343 "java/lang/String" "value" "[B" (.ref b343b) := (Ff1166).keep K1175q List.not_mem_nil
     have Ff1183 : Fld Z h1175 b343 "java/lang/String" "coder" "B" (.int 0) := (Ff1167).keep K1175q List.not_mem_nil
     have Ef1184 : Exa Z h1175 b343b "[B" := (Ef1168).keep K1175q
     have Vf1185 : Arv Z h1175 b343b kb343b .byte (1 : Int32) ((([v294] : List Int32).map (fun c => c.toInt8.toInt32)).map Value.int) (.int 0) := (Vf1169).keep K1175q List.not_mem_nil
     have Ef1186 : Exa Z h1175 b831 "java/util/Optional" := (Ef1170).keep K1175q
     have Ff1187 : Fld Z h1175 b831 "java/util/Optional" "value" "Ljava/lang/Object;" (.ref b343) := (Ff1171).keep K1175q List.not_mem_nil
     have Ef1188 : Exa Z h1175 b1097 own_GU := (Q1159_0).keep K1175q
     have Ff1189 : Fld Z h1175 b1097 own_GU "text" "Ljava/lang/String;" (.ref a1112) := (Q1159_1).keep K1175q List.not_mem_nil
     have Ff1190 : Fld Z h1175 b1097 own_GU "host" "Ljava/lang/String;" (.ref a1134) := (Q1159_2).keep K1175q List.not_mem_nil
     have Ff1191 : Fld Z h1175 b1097 own_GU "port" "Ljava/util/Optional;" (.ref s_EMPTY) := (Q1159_3).keep K1175q List.not_mem_nil
     have Ff1192 : Fld Z h1175 b1097 own_GU "type" "Ljava/util/Optional;" (.ref b831) := (Q1159_4).keep K1175q List.not_mem_nil
     have Ff1193 : Fld Z h1175 b1097 own_GU "selector" "Ljava/lang/String;" (.ref b353) := (Q1159_5).keep K1175q List.not_mem_nil
     have Ff1194 : Fld Z h1175 b1097 own_GU "search" "Ljava/util/Optional;" (.ref b1077) := (Q1159_6).keep K1175q List.not_mem_nil
     have Ff1195 : Fld Z h1175 b1097 own_GU "gopherPlus" "Ljava/util/Optional;" (.ref s_EMPTY) := (Q1159_7).keep K1175q List.not_mem_nil
     rw [e1175] at hC1175
     have CR1175 := CR1159.trans hC1175
     have hk1175 : T1175.heap.size ≤ h1175.size := by rw [e1175]; exact Nat.le_refl _
     have pre1196 : own_P p e below T1175 (mkF m 220 #[vI p0, vI p1, vI p2, vI p3, vI p4, vI v273, vI v279, vI v285, vI v291, vI v294, vI v297, vI v300, vI v303, vR b306, vR b343, vR b353, vR b831, vR b1077, vR s_EMPTY, vR b1097, .unset] [(.ref b343)]) s₁ (own_E m p0 p1 p2 p3 p4) := fun t k => pre1174 t (st1175.trans k)
     have pre1197 : own_P p e below T1175 (mkF m 238 #[vI p0, vI p1, vI p2, vI p3, vI p4, vI v273, vI v279, vI v285, vI v291, vI v294, vI v297, vI v300, vI v303, vR b306, vR b343, vR b353, vR b831, vR b1077, vR s_EMPTY, vR b1097, vR b343] [(.ref b343), (.ref b343)]) s₁ (own_E m p0 p1 p2 p3 p4) := by
      intro t k
      refine pre1196 t ?_
      refine XS.astore X1175.here hx rfl (hb hby at_220) rfl rfl (l' := #[vI p0, vI p1, vI p2, vI p3, vI p4, vI v273, vI v279, vI v285, vI v291, vI v294, vI v297, vI v300, vI v303, vR b306, vR b343, vR b353, vR b831, vR b1077, vR s_EMPTY, vR b1097, vR b343]) rfl ?_
      refine XS.aload X1175.here hx rfl (hb hby at_222) rfl rfl ?_
      refine XS.ifnonnullYes X1175.here hx rfl (pc0 := 224) (pc' := 229) rfl (hb hby at_224) rfl (by decide) (by decide) ?_
      refine XS.iload X1175.here hx rfl (hb hby at_229) rfl ?_
      refine XS.ifNo X1175.here hx rfl (hb hby at_231) rfl ((if0 _ _).trans (feq hc139_368).1) ?_
      refine XS.aload X1175.here hx rfl (hb hby at_234) rfl rfl ?_
      refine XS.aload X1175.here hx rfl (hb hby at_236) rfl rfl ?_
      exact k
     obtain ⟨cq1198, kq1198, q1198a, q1198b, q1198c⟩ := isOf hZ1175 e1175 Ef1181
     obtain ⟨_, _, ⟨T1198, L1198, k1198, n1198⟩, -, X1198, ⟨Lc1198, hQ1198, l1198, y1198, z1198⟩, st1198⟩ := X1175.virtualBack hx (y := (⟨"java/lang/String", "equals", "(Ljava/lang/Object;)Z"⟩ : MethodName)) (z := (⟨"java/lang/String", "equals", "(Ljava/lang/Object;)Z"⟩ : MethodName)) ho1175 (mvT hZ1175 (own_w hw 148 rfl)) (mvT hZ1175 (own_w hw 149 rfl)) (notFace_of_selects (args := #[]) (mvT hZ1175 (own_w hw 151 rfl))) (mvT hZ1175 (own_w hw 151 rfl)) (mvT hZ1175 (own_w hw 150 rfl)) (by decide) (backOf (W := 0) (rm27_s l Z ar0 hw [] b343 h1175 n0 Z1175) hZ1175 (own_w hw 152 rfl) (own_w hw 3 rfl) (by decide) (by decide)) q1198a q1198c (g := (mkF m 238 #[vI p0, vI p1, vI p2, vI p3, vI p4, vI v273, vI v279, vI v285, vI v291, vI v294, vI v297, vI v300, vI v303, vR b306, vR b343, vR b353, vR b831, vR b1077, vR s_EMPTY, vR b1097, vR b343] [(.ref b343), (.ref b343)])) rfl (by rw [hml]; rfl) (Steps.refl _) (argsL := [(.ref b343)]) (rest := []) (lenOf pd_15 rfl) rfl (by show 2 * 0 + _ ≤ _; exact Nat.le_of_eq rfl) (hb hby at_238) (fun _ _ => ⟨rfl, e1175, (by decide : 28 + 0 ≤ _), (by decide : 274 + 0 ≤ _)⟩)
     dsimp only [Pt.U, Pt.locs, Pt.cells, Pt.slots] at X1198 l1198 y1198 z1198 st1198 hQ1198
     subst l1198 y1198 z1198
     obtain ⟨rfl, N1198q, e1198⟩ := hQ1198
     have N1198 := Fr.app N1175 N1198q
     have pre1199 : own_P p e below T1198 (mkF m 241 #[vI p0, vI p1, vI p2, vI p3, vI p4, vI v273, vI v279, vI v285, vI v291, vI v294, vI v297, vI v300, vI v303, vR b306, vR b343, vR b353, vR b831, vR b1077, vR s_EMPTY, vR b1097, vR b343] [(.int 1)]) s₁ (own_E m p0 p1 p2 p3 p4) := fun t k => pre1197 t (st1198.trans k)
     obtain ⟨fs, hr, hrun, hended, hRW⟩ := X1198.leaveW (s := s) (vm₁ := T1175.vm) hS1175 (by rw [e1198]; first | exact hk1175 | exact Nat.le_refl _) (v := some (.int 1)) (fun h => by rw [Bd.returns] at h; cases h)
     refine ⟨_, _, pre1199 _ ?_, hrun, hended, _, _, rfl, ?_, hRW.1, hRW.2.1, hRW.2.2.1, hRW.2.2.2.mono (by decide) (by decide)⟩
     ·
      exact retN X1198 hx (t := .boolean) Bd.returns (by simp) (hb hby at_241) hr
     ·
      show Q0 Z p0 p1 p2 p3 p4 gc1 gf3 s_EMPTY h0 n0 _ T1198.heap _
      rw [e1198]
      exact ⟨rfl, N1198⟩
    ·
     have pre1200 : ∀ t, Steps p.tables e below (T1077.setTop (mkF m 180 #[vI p0, vI p1, vI p2, vI p3, vI p4, vI v273, vI v279, vI v285, vI v291, vI v294, vI v297, vI v300, vI v303, vR b306, vR b343, vR b353, vR b831, vR b1077, .unset, .unset, .unset] [(.ref b353)])) t → Steps p.tables e below (s₁.setTop (own_E m p0 p1 p2 p3 p4)) t := by
      intro t k
      refine pre1091 t ?_
      refine XS.ifNo X1077.here hx rfl (hb hby at_175) rfl ((if0 _ _).trans (feq hc175_1092).1) ?_
      refine XS.aload X1077.here hx rfl (hb hby at_178) rfl rfl ?_
      exact k
     obtain ⟨_, _, ⟨T1201, L1201, k1201, n1201⟩, -, X1201, ⟨Lc1201, hQ1201, l1201, y1201, z1201⟩, st1201⟩ := Jvm.LawKit.callS X1077 hx (y := (⟨"java/util/Optional", "of", "(Ljava/lang/Object;)Ljava/util/Optional;"⟩ : MethodName)) hown (mvT hZ (own_w hw 135 rfl)) (mvT hZ (own_w hw 136 rfl)) (mvT hZ (own_w hw 29 rfl)) (mvT hZ (own_w hw 137 rfl)) (by decide) (backOf (W := 0) (rm24 l Z ar0 hw [] b353 h1077 n0 Z1077) hZ (own_w hw 137 rfl) (own_w hw 29 rfl) (by decide) (by decide)) (g := (mkF m 180 #[vI p0, vI p1, vI p2, vI p3, vI p4, vI v273, vI v279, vI v285, vI v291, vI v294, vI v297, vI v300, vI v303, vR b306, vR b343, vR b353, vR b831, vR b1077, .unset, .unset, .unset] [(.ref b353)])) rfl (by rw [hml]; rfl) (argsL := [(.ref b353)]) (rest := []) (lenOf pd_10 rfl) rfl (by show 2 * 0 + _ ≤ _; exact Nat.le_of_eq rfl) (hb hby at_180) (fun _ _ => ⟨rfl, e1077, (by decide : 7 + 1 ≤ _), (by decide : 15 + 1 ≤ _)⟩)
     dsimp only [Pt.U, Pt.locs, Pt.cells, Pt.slots] at X1201 l1201 y1201 z1201 st1201 hQ1201
     subst l1201 y1201 z1201
     obtain ⟨h1201, e1201⟩ : ∃ h, T1201.heap = h := ⟨_, rfl⟩
     rw [e1201] at hQ1201
     obtain ⟨b1201, rfl, N1201q, K1201q, y_b1201, Ob1201_0, Ob1201_1⟩ := hQ1201
     have N1201 := Fr.app N1077 N1201q
     have ne_s_EMPTY_b1201 : s_EMPTY ≠ b1201 := Nat.ne_of_lt (Nat.lt_of_lt_of_le (Ef1081).lt y_b1201)
     have ne_b343_b1201 : b343 ≠ b1201 := Nat.ne_of_lt (Nat.lt_of_lt_of_le (Ef1083).lt y_b1201)
     have ne_b343b_b1201 : b343b ≠ b1201 := Nat.ne_of_lt (Nat.lt_of_lt_of_le (Ef1086).lt y_b1201)
     have ne_b831_b1201 : b831 ≠ b1201 := Nat.ne_of_lt (Nat.lt_of_lt_of_le (Ef1088).lt y_b1201)
     have g_b1201 : n0 ≤ b1201 := Nat.le_trans Z1077 y_b1201
     have sz_b1201 : h0.size ≤ b1201 := Nat.le_trans K1077.1 y_b1201
     have Z1201 : n0 ≤ h1201.size := Nat.le_trans Z1077 K1201q.1
     have hk1201 := Nat.le_trans hk1077 K1201q.1
     have K1201 : Keep h0 h1201 [] := K1077.trans K1201q (fun x hx => absurd hx List.not_mem_nil)
     have CR1201 := CR1077.trans (CHr.keep K1201q sf0 CR1077.1)
     have Sf1202 : Sta Z h1201 "java/lang/String" "COMPACT_STRINGS" "Z" (.int gc1) := own_sta_keep0 Sf1078 K1201q
     have Sf1203 : Sta Z h1201 "jdk/internal/util/Preconditions" "SIOOBE_FORMATTER" "Ljava/util/function/BiFunction;" gf3 := own_sta_keep0 Sf1079 K1201q
     have Sf1204 : Sta Z h1201 "java/util/Optional" "EMPTY" "Ljava/util/Optional;" (.ref s_EMPTY) := own_sta_keep0 Sf1080 K1201q
     have Ef1205 : Exa Z h1201 s_EMPTY "java/util/Optional" := (Ef1081).keep K1201q
     have Ff1206 : Fld Z h1201 s_EMPTY "java/util/Optional" "value" "Ljava/lang/Object;" .null := (Ff1082).keep K1201q List.not_mem_nil
     have Ef1207 : Exa Z h1201 b343 "java/lang/String" := (Ef1083).keep K1201q
     have Ff1208 : Fld Z h1201 b343 "java/lang/String" "value" "[B" (.ref b343b) := (Ff1084).keep K1201q List.not_mem_nil
     have Ff1209 : Fld Z h1201 b343 "java/lang/String" "coder" "B" (.int 0) := (Ff1085).keep K1201q List.not_mem_nil
     have Ef1210 : Exa Z h1201 b343b "[B" := (Ef1086).keep K1201q
     have Vf1211 : Arv Z h1201 b343b kb343b .byte (1 : Int32) ((([v294] : List Int32).map (fun c => c.toInt8.toInt32)).map Value.int) (.int 0) := (Vf1087).keep K1201q List.not_mem_nil
     have Ef1212 : Exa Z h1201 b831 "java/util/Optional" := (Ef1088).keep K1201q
     have Ff1213 : Fld Z h1201 b831 "java/util/Optional" "value" "Ljava/lang/Object;" (.ref b343) := (Ff1089).keep K1201q List.not_mem_nil
     have pre1214 : own_P p e below T1201 (mkF m 183 #[vI p0, vI p1, vI p2, vI p3, vI p4, vI v273, vI v279, vI v285, vI v291, vI v294, vI v297, vI v300, vI v303, vR b306, vR b343, vR b353, vR b831, vR b1077, .unset, .unset, .unset] [(.ref b1201)]) s₁ (own_E m p0 p1 p2 p3 p4) := fun t k => pre1200 t (st1201 t k)
     have pre1215 : own_P p e below T1201 (mkF m 191 #[vI p0, vI p1, vI p2, vI p3, vI p4, vI v273, vI v279, vI v285, vI v291, vI v294, vI v297, vI v300, vI v303, vR b306, vR b343, vR b353, vR b831, vR b1077, vR b1201, .unset, .unset] []) s₁ (own_E m p0 p1 p2 p3 p4) := by
      intro t k
      refine pre1214 t ?_
      refine XS.goto X1201.here hx rfl (pc0 := 183) (pc' := 189) rfl (hb hby at_183) (by decide) (by decide) ?_
      refine XS.astore X1201.here hx rfl (hb hby at_189) rfl rfl (l' := #[vI p0, vI p1, vI p2, vI p3, vI p4, vI v273, vI v279, vI v285, vI v291, vI v294, vI v297, vI v300, vI v303, vR b306, vR b343, vR b353, vR b831, vR b1077, vR b1201, .unset, .unset]) rfl ?_
      exact k
     obtain ⟨T1216, h1216, X1216, e1216, E1216, A1216, D1216, -, st1216⟩ := newO X1201 hx hZ hown (own_w hw 32 rfl) (own_w hw 33 rfl) (own_w hw 34 rfl) e1201 (g := (mkF m 191 #[vI p0, vI p1, vI p2, vI p3, vI p4, vI v273, vI v279, vI v285, vI v291, vI v294, vI v297, vI v300, vI v303, vR b306, vR b343, vR b353, vR b831, vR b1077, vR b1201, .unset, .unset] [])) rfl (hb hby at_191) (by decide) (by decide)
     obtain ⟨b1216, g1216⟩ : ∃ z, z = h1201.size := ⟨_, rfl⟩
     rw [← g1216] at A1216 D1216 st1216
     have ne_s_EMPTY_b1216 : s_EMPTY ≠ b1216 := Nat.ne_of_lt (Nat.lt_of_lt_of_le (Ef1205).lt (Nat.le_of_eq g1216.symm))
     have ne_b343_b1216 : b343 ≠ b1216 := Nat.ne_of_lt (Nat.lt_of_lt_of_le (Ef1207).lt (Nat.le_of_eq g1216.symm))
     have ne_b343b_b1216 : b343b ≠ b1216 := Nat.ne_of_lt (Nat.lt_of_lt_of_le (Ef1210).lt (Nat.le_of_eq g1216.symm))
     have ne_b831_b1216 : b831 ≠ b1216 := Nat.ne_of_lt (Nat.lt_of_lt_of_le (Ef1212).lt (Nat.le_of_eq g1216.symm))
     have g_b1216 : n0 ≤ b1216 := Nat.le_trans Z1201 (Nat.le_of_eq g1216.symm)
     have sz_b1216 : h0.size ≤ b1216 := Nat.le_trans K1201.1 (Nat.le_of_eq g1216.symm)
     have Z1216 : n0 ≤ h1216.size := Nat.le_trans Z1201 E1216.1
     have K1216 : Keep h0 h1216 [] := K1201.ext E1216
     have hk1216 := Nat.le_trans hk1201 E1216.1
     have CR1216 := CR1201.trans (CHr.ext E1216 CR1201.1)
     have Sf1217 : Sta Z h1216 "java/lang/String" "COMPACT_STRINGS" "Z" (.int gc1) := (Sf1202).ext E1216
     have Sf1218 : Sta Z h1216 "jdk/internal/util/Preconditions" "SIOOBE_FORMATTER" "Ljava/util/function/BiFunction;" gf3 := (Sf1203).ext E1216
     have Sf1219 : Sta Z h1216 "java/util/Optional" "EMPTY" "Ljava/util/Optional;" (.ref s_EMPTY) := (Sf1204).ext E1216
     have Ef1220 : Exa Z h1216 s_EMPTY "java/util/Optional" := (Ef1205).ext E1216
     have Ff1221 : Fld Z h1216 s_EMPTY "java/util/Optional" "value" "Ljava/lang/Object;" .null := (Ff1206).ext E1216
     have Ef1222 : Exa Z h1216 b343 "java/lang/String" := (Ef1207).ext E1216
     have Ff1223 : Fld Z h1216 b343 "java/lang/String" "value" "[B" (.ref b343b) := (Ff1208).ext E1216
     have Ff1224 : Fld Z h1216 b343 "java/lang/String" "coder" "B" (.int 0) := (Ff1209).ext E1216
     have Ef1225 : Exa Z h1216 b343b "[B" := (Ef1210).ext E1216
     have Vf1226 : Arv Z h1216 b343b kb343b .byte (1 : Int32) ((([v294] : List Int32).map (fun c => c.toInt8.toInt32)).map Value.int) (.int 0) := (Vf1211).ext E1216
     have Ef1227 : Exa Z h1216 b831 "java/util/Optional" := (Ef1212).ext E1216
     have Ff1228 : Fld Z h1216 b831 "java/util/Optional" "value" "Ljava/lang/Object;" (.ref b343) := (Ff1213).ext E1216
     have Ftext_b1216 : Fld Z h1216 b1216 own_GU "text" "Ljava/lang/String;" .null := D1216 (Or.inr (own_w hw 60 rfl)) (ty := (.object "java/lang/String")) (by decide)
     have Fhost_b1216 : Fld Z h1216 b1216 own_GU "host" "Ljava/lang/String;" .null := D1216 (Or.inr (own_w hw 62 rfl)) (ty := (.object "java/lang/String")) (by decide)
     have Fport_b1216 : Fld Z h1216 b1216 own_GU "port" "Ljava/util/Optional;" .null := D1216 (Or.inr (own_w hw 64 rfl)) (ty := (.object "java/util/Optional")) (by decide)
     have Ftype_b1216 : Fld Z h1216 b1216 own_GU "type" "Ljava/util/Optional;" .null := D1216 (Or.inr (own_w hw 66 rfl)) (ty := (.object "java/util/Optional")) (by decide)
     have Fselector_b1216 : Fld Z h1216 b1216 own_GU "selector" "Ljava/lang/String;" .null := D1216 (Or.inr (own_w hw 68 rfl)) (ty := (.object "java/lang/String")) (by decide)
     have Fsearch_b1216 : Fld Z h1216 b1216 own_GU "search" "Ljava/util/Optional;" .null := D1216 (Or.inr (own_w hw 70 rfl)) (ty := (.object "java/util/Optional")) (by decide)
     have FgopherPlus_b1216 : Fld Z h1216 b1216 own_GU "gopherPlus" "Ljava/util/Optional;" .null := D1216 (Or.inr (own_w hw 72 rfl)) (ty := (.object "java/util/Optional")) (by decide)
     have pre1229 : own_P p e below T1216 (mkF m 194 #[vI p0, vI p1, vI p2, vI p3, vI p4, vI v273, vI v279, vI v285, vI v291, vI v294, vI v297, vI v300, vI v303, vR b306, vR b343, vR b353, vR b831, vR b1077, vR b1201, .unset, .unset] [(.ref b1216)]) s₁ (own_E m p0 p1 p2 p3 p4) := fun t k => pre1215 t (st1216 t k)
     have pre1230 : own_P p e below T1216 (mkF m 195 #[vI p0, vI p1, vI p2, vI p3, vI p4, vI v273, vI v279, vI v285, vI v291, vI v294, vI v297, vI v300, vI v303, vR b306, vR b343, vR b353, vR b831, vR b1077, vR b1201, .unset, .unset] [(.ref b1216), (.ref b1216)]) s₁ (own_E m p0 p1 p2 p3 p4) := by
      intro t k
      refine pre1229 t ?_
      refine XS.dup X1216.here hx rfl (hb hby at_194) rfl rfl ?_
      exact k
     obtain ⟨a1231, T1231, h1231, k1231, X1231, e1231, E1231, hS1231, hk1231, hZ1231, ho1231, hC1231, -, st1231⟩ := ldcOH (s := s) (vm0 := s.vm) X1216 hx hZ hown (own_w hw 35 rfl) (own_strW hw) e1216 hS0 hk1216 hEL CR1216.1 (g := (mkF m 195 #[vI p0, vI p1, vI p2, vI p3, vI p4, vI v273, vI v279, vI v285, vI v291, vI v294, vI v297, vI v300, vI v303, vR b306, vR b343, vR b353, vR b831, vR b1077, vR b1201, .unset, .unset] [(.ref b1216), (.ref b1216)])) rfl (hb hby at_195) (n := 44) (by decide) (by decide) (by decide) (by decide)
     have CR1231 := CR1216.trans hC1231
     have Z1231 : n0 ≤ h1231.size := Nat.le_trans Z1216 E1231.1
     have K1231 : Keep h0 h1231 [] := K1216.ext E1231
     have Sf1232 : Sta Z h1231 "java/lang/String" "COMPACT_STRINGS" "Z" (.int gc1) := (Sf1217).ext E1231
     have Sf1233 : Sta Z h1231 "jdk/internal/util/Preconditions" "SIOOBE_FORMATTER" "Ljava/util/function/BiFunction;" gf3 := (Sf1218).ext E1231
     have Sf1234 : Sta Z h1231 "java/util/Optional" "EMPTY" "Ljava/util/Optional;" (.ref s_EMPTY) := (Sf1219).ext E1231
     have Ef1235 : Exa Z h1231 s_EMPTY "java/util/Optional" := (Ef1220).ext E1231
     have Ff1236 : Fld Z h1231 s_EMPTY "java/util/Optional" "value" "Ljava/lang/Object;" .null := (Ff1221).ext E1231
     have Ef1237 : Exa Z h1231 b343 "java/lang/String" := (Ef1222).ext E1231
     have Ff1238 : Fld Z h1231 b343 "java/lang/String" "value" "[B" (.ref b343b) := (Ff1223).ext E1231
     have Ff1239 : Fld Z h1231 b343 "java/lang/String" "coder" "B" (.int 0) := (Ff1224).ext E1231
     have Ef1240 : Exa Z h1231 b343b "[B" := (Ef1225).ext E1231
     have Vf1241 : Arv Z h1231 b343b kb343b .byte (1 : Int32) ((([v294] : List Int32).map (fun c => c.toInt8.toInt32)).map Value.int) (.int 0) := (Vf1226).ext E1231
     have Ef1242 : Exa Z h1231 b831 "java/util/Optional" := (Ef1227).ext E1231
     have Ff1243 : Fld Z h1231 b831 "java/util/Optional" "value" "Ljava/lang/Object;" (.ref b343) := (Ff1228).ext E1231
     have Ef1244 : Exa Z h1231 b1216 own_GU := (A1216).ext E1231
     have Ff1245 : Fld Z h1231 b1216 own_GU "text" "Ljava/lang/String;" .null := (Ftext_b1216).ext E1231
     have Ff1246 : Fld Z h1231 b1216 own_GU "host" "Ljava/lang/String;" .null := (Fhost_b1216).ext E1231
     have Ff1247 : Fld Z h1231 b1216 own_GU "port" "Ljava/util/Optional;" .null := (Fport_b1216).ext E1231
     have Ff1248 : Fld Z h1231 b1216 own_GU "type" "Ljava/util/Optional;" .null := (Ftype_b1216).ext E1231
     have Ff1249 : Fld Z h1231 b1216 own_GU "selector" "Ljava/lang/String;" .null := (Fselector_b1216).ext E1231
     have Ff1250 : Fld Z h1231 b1216 own_GU "search" "Ljava/util/Optional;" .null := (Fsearch_b1216).ext E1231
     have Ff1251 : Fld Z h1231 b1216 own_GU "gopherPlus" "Ljava/util/Optional;" .null := (FgopherPlus_b1216).ext E1231
     have pre1252 : own_P p e below T1231 (mkF m 197 #[vI p0, vI p1, vI p2, vI p3, vI p4, vI v273, vI v279, vI v285, vI v291, vI v294, vI v297, vI v300, vI v303, vR b306, vR b343, vR b353, vR b831, vR b1077, vR b1201, .unset, .unset] [(.ref a1231), (.ref b1216), (.ref b1216)]) s₁ (own_E m p0 p1 p2 p3 p4) := fun t k => pre1230 t (st1231 t k)
     obtain ⟨a1253, T1253, h1253, k1253, X1253, e1253, E1253, hS1253, hk1253, hZ1253, ho1253, hC1253, -, st1253⟩ := ldcOH (s := s) (vm0 := T1231.vm) X1231 hx hZ1231 ho1231 (own_w hw 38 rfl) (own_strW hw) e1231 hS1231 hk1231 hEL CR1231.1 (g := (mkF m 197 #[vI p0, vI p1, vI p2, vI p3, vI p4, vI v273, vI v279, vI v285, vI v291, vI v294, vI v297, vI v300, vI v303, vR b306, vR b343, vR b353, vR b831, vR b1077, vR b1201, .unset, .unset] [(.ref a1231), (.ref b1216), (.ref b1216)])) rfl (hb hby at_197) (n := 4) (by decide) (by decide) (by decide) (by decide)
     have CR1253 := CR1231.trans hC1253
     have Z1253 : n0 ≤ h1253.size := Nat.le_trans Z1231 E1253.1
     have K1253 : Keep h0 h1253 [] := K1231.ext E1253
     have Sf1254 : Sta Z h1253 "java/lang/String" "COMPACT_STRINGS" "Z" (.int gc1) := (Sf1232).ext E1253
     have Sf1255 : Sta Z h1253 "jdk/internal/util/Preconditions" "SIOOBE_FORMATTER" "Ljava/util/function/BiFunction;" gf3 := (Sf1233).ext E1253
     have Sf1256 : Sta Z h1253 "java/util/Optional" "EMPTY" "Ljava/util/Optional;" (.ref s_EMPTY) := (Sf1234).ext E1253
     have Ef1257 : Exa Z h1253 s_EMPTY "java/util/Optional" := (Ef1235).ext E1253
     have Ff1258 : Fld Z h1253 s_EMPTY "java/util/Optional" "value" "Ljava/lang/Object;" .null := (Ff1236).ext E1253
     have Ef1259 : Exa Z h1253 b343 "java/lang/String" := (Ef1237).ext E1253
     have Ff1260 : Fld Z h1253 b343 "java/lang/String" "value" "[B" (.ref b343b) := (Ff1238).ext E1253
     have Ff1261 : Fld Z h1253 b343 "java/lang/String" "coder" "B" (.int 0) := (Ff1239).ext E1253
     have Ef1262 : Exa Z h1253 b343b "[B" := (Ef1240).ext E1253
     have Vf1263 : Arv Z h1253 b343b kb343b .byte (1 : Int32) ((([v294] : List Int32).map (fun c => c.toInt8.toInt32)).map Value.int) (.int 0) := (Vf1241).ext E1253
     have Ef1264 : Exa Z h1253 b831 "java/util/Optional" := (Ef1242).ext E1253
     have Ff1265 : Fld Z h1253 b831 "java/util/Optional" "value" "Ljava/lang/Object;" (.ref b343) := (Ff1243).ext E1253
     have Ef1266 : Exa Z h1253 b1216 own_GU := (Ef1244).ext E1253
     have Ff1267 : Fld Z h1253 b1216 own_GU "text" "Ljava/lang/String;" .null := (Ff1245).ext E1253
     have Ff1268 : Fld Z h1253 b1216 own_GU "host" "Ljava/lang/String;" .null := (Ff1246).ext E1253
     have Ff1269 : Fld Z h1253 b1216 own_GU "port" "Ljava/util/Optional;" .null := (Ff1247).ext E1253
     have Ff1270 : Fld Z h1253 b1216 own_GU "type" "Ljava/util/Optional;" .null := (Ff1248).ext E1253
     have Ff1271 : Fld Z h1253 b1216 own_GU "selector" "Ljava/lang/String;" .null := (Ff1249).ext E1253
     have Ff1272 : Fld Z h1253 b1216 own_GU "search" "Ljava/util/Optional;" .null := (Ff1250).ext E1253
     have Ff1273 : Fld Z h1253 b1216 own_GU "gopherPlus" "Ljava/util/Optional;" .null := (Ff1251).ext E1253
     have pre1274 : own_P p e below T1253 (mkF m 199 #[vI p0, vI p1, vI p2, vI p3, vI p4, vI v273, vI v279, vI v285, vI v291, vI v294, vI v297, vI v300, vI v303, vR b306, vR b343, vR b353, vR b831, vR b1077, vR b1201, .unset, .unset] [(.ref a1253), (.ref a1231), (.ref b1216), (.ref b1216)]) s₁ (own_E m p0 p1 p2 p3 p4) := fun t k => pre1252 t (st1253 t k)
     have pre1275 : own_P p e below T1253 (mkF m 207 #[vI p0, vI p1, vI p2, vI p3, vI p4, vI v273, vI v279, vI v285, vI v291, vI v294, vI v297, vI v300, vI v303, vR b306, vR b343, vR b353, vR b831, vR b1077, vR b1201, .unset, .unset] [(.ref b1077), (.ref b353), (.ref b831), (.ref b1201), (.ref a1253), (.ref a1231), (.ref b1216), (.ref b1216)]) s₁ (own_E m p0 p1 p2 p3 p4) := by
      intro t k
      refine pre1274 t ?_
      refine XS.aload X1253.here hx rfl (hb hby at_199) rfl rfl ?_
      refine XS.aload X1253.here hx rfl (hb hby at_201) rfl rfl ?_
      refine XS.aload X1253.here hx rfl (hb hby at_203) rfl rfl ?_
      refine XS.aload X1253.here hx rfl (hb hby at_205) rfl rfl ?_
      exact k
     obtain ⟨_, _, ⟨T1276, L1276, k1276, n1276⟩, -, X1276, ⟨Lc1276, hQ1276, l1276, y1276, z1276⟩, st1276⟩ := Jvm.LawKit.callS X1253 hx (y := (⟨"java/util/Optional", "empty", "()Ljava/util/Optional;"⟩ : MethodName)) ho1253 (mvT hZ1253 (own_w hw 27 rfl)) (mvT hZ1253 (own_w hw 28 rfl)) (mvT hZ1253 (own_w hw 29 rfl)) (mvT hZ1253 (own_w hw 30 rfl)) (by decide) (backOf (W := 8) (rm6 l Z ar0 hw [] s_EMPTY h1253 n0 Z1253 Sf1256) hZ1253 (own_w hw 30 rfl) (own_w hw 29 rfl) (by decide) (by decide)) (g := (mkF m 207 #[vI p0, vI p1, vI p2, vI p3, vI p4, vI v273, vI v279, vI v285, vI v291, vI v294, vI v297, vI v300, vI v303, vR b306, vR b343, vR b353, vR b831, vR b1077, vR b1201, .unset, .unset] [(.ref b1077), (.ref b353), (.ref b831), (.ref b1201), (.ref a1253), (.ref a1231), (.ref b1216), (.ref b1216)])) rfl (by rw [hml]; rfl) (argsL := []) (rest := [(.ref b1077), (.ref b353), (.ref b831), (.ref b1201), (.ref a1253), (.ref a1231), (.ref b1216), (.ref b1216)]) (lenOf pd_9 rfl) rfl (by show 2 * 0 + _ ≤ _; exact Nat.le_of_eq rfl) (hb hby at_207) (fun _ _ => ⟨rfl, e1253, (by decide : 13 + 0 ≤ _), (by decide : 79 + 0 ≤ _)⟩)
     dsimp only [Pt.U, Pt.locs, Pt.cells, Pt.slots] at X1276 l1276 y1276 z1276 st1276 hQ1276
     subst l1276 y1276 z1276
     obtain ⟨rfl, N1276q, e1276⟩ := hQ1276
     have N1276 := Fr.app N1201 N1276q
     have pre1277 : own_P p e below T1276 (mkF m 210 #[vI p0, vI p1, vI p2, vI p3, vI p4, vI v273, vI v279, vI v285, vI v291, vI v294, vI v297, vI v300, vI v303, vR b306, vR b343, vR b353, vR b831, vR b1077, vR b1201, .unset, .unset] [(.ref s_EMPTY), (.ref b1077), (.ref b353), (.ref b831), (.ref b1201), (.ref a1253), (.ref a1231), (.ref b1216), (.ref b1216)]) s₁ (own_E m p0 p1 p2 p3 p4) := fun t k => pre1275 t (st1276 t k)
     obtain ⟨_, _, ⟨T1278, L1278, k1278, n1278⟩, -, X1278r, hS1278r, hg1278r, ⟨Lc1278, hQ1278, l1278, y1278, z1278, hC1278⟩, st1278⟩ := X1276.specialBackS hx (y := (⟨own_GU, "<init>", "(Ljava/lang/String;Ljava/lang/String;Ljava/util/Optional;Ljava/util/Optional;Ljava/lang/String;Ljava/util/Optional;Ljava/util/Optional;)V"⟩ : MethodName)) rfl ho1253 (mvT hZ1253 (own_w hw 39 rfl)) (mvT hZ1253 (own_w hw 40 rfl)) (mvT hZ1253 (own_w hw 41 rfl)) (by decide) (backOfSH (W := 1) (rm7 l Z ar0 hw [] b1216 a1231 a1253 b1201 b831 b353 b1077 s_EMPTY .null .null .null .null .null .null .null h1253 n0 Z1253 Ef1266 Ff1267 Ff1268 Ff1269 Ff1270 Ff1271 Ff1272 Ff1273 g_b1216) hZ1253 (own_w hw 41 rfl) (own_w hw 34 rfl) (by decide) (by decide) hEL CR1253.1) (g := (mkF m 210 #[vI p0, vI p1, vI p2, vI p3, vI p4, vI v273, vI v279, vI v285, vI v291, vI v294, vI v297, vI v300, vI v303, vR b306, vR b343, vR b353, vR b831, vR b1077, vR b1201, .unset, .unset] [(.ref s_EMPTY), (.ref b1077), (.ref b353), (.ref b831), (.ref b1201), (.ref a1253), (.ref a1231), (.ref b1216), (.ref b1216)])) rfl (by rw [hml]; rfl) (Steps.refl _) (a := b1216) (argsL := [(.ref a1231), (.ref a1253), (.ref b1201), (.ref b831), (.ref b353), (.ref b1077), (.ref s_EMPTY)]) (rest := [(.ref b1216)]) (lenOf pd_11 rfl) rfl (by show 2 * 0 + _ ≤ _; exact Nat.le_of_eq rfl) (hb hby at_210) (fun _ _ => ⟨rfl, e1276, (by decide : 13 + 14 ≤ _), (by decide : 79 + 188 ≤ _)⟩)
     dsimp only [Pt.U, Pt.locs, Pt.cells, Pt.slots] at X1278r hS1278r hg1278r l1278 y1278 z1278 st1278 hQ1278 hC1278
     subst l1278 y1278 z1278
     obtain ⟨X1278, hS1278, hZ1278, ho1278⟩ := rebS (s := s) (vm0 := T1253.vm) (n1 := T1276.heap.size) hS1253 (by rw [e1276]; first | exact hk1253 | exact Nat.le_refl _) X1278r hS1278r hg1278r hZ1253 ho1253
     obtain ⟨h1278, e1278⟩ : ∃ h, T1278.heap = h := ⟨_, rfl⟩
     rw [e1278] at hQ1278
     obtain ⟨rfl, N1278q, K1278q, Q1278_0, Q1278_1, Q1278_2, Q1278_3, Q1278_4, Q1278_5, Q1278_6, Q1278_7⟩ := hQ1278
     have N1278 := Fr.app N1276 N1278q
     have Z1278 : n0 ≤ h1278.size := Nat.le_trans Z1253 K1278q.1
     have K1278 : Keep h0 h1278 [] := K1253.trans K1278q (fun x hx => by cases List.mem_singleton.mp hx; exact Or.inr sz_b1216)
     have Sf1279 : Sta Z h1278 "java/lang/String" "COMPACT_STRINGS" "Z" (.int gc1) := own_sta_keep Sf1254 K1278q (own_ns1 (own_ns_exa Ef1266))
     have Sf1280 : Sta Z h1278 "jdk/internal/util/Preconditions" "SIOOBE_FORMATTER" "Ljava/util/function/BiFunction;" gf3 := own_sta_keep Sf1255 K1278q (own_ns1 (own_ns_exa Ef1266))
     have Sf1281 : Sta Z h1278 "java/util/Optional" "EMPTY" "Ljava/util/Optional;" (.ref s_EMPTY) := own_sta_keep Sf1256 K1278q (own_ns1 (own_ns_exa Ef1266))
     have Ef1282 : Exa Z h1278 s_EMPTY "java/util/Optional" := (Ef1257).keep K1278q
     have Ff1283 : Fld Z h1278 s_EMPTY "java/util/Optional" "value" "Ljava/lang/Object;" .null := (Ff1258).keep K1278q (fun q => absurd (List.mem_singleton.mp q) ne_s_EMPTY_b1216)
     have Ef1284 : Exa Z h1278 b343 "java/lang/String" := (Ef1259).keep K1278q
     have Ff1285 : Fld Z h1278 b343 "java/lang/String" "value" "[B" (.ref b343b) := (Ff1260).keep K1278q (fun q => absurd (List.mem_singleton.mp q) ne_b343_b1216)
     have Ff1286 : Fld Z h1278 b343 "java/lang/String" "coder" "B" (.int 0) := (Ff1261).keep K1278q (fun q => absurd (List.mem_singleton.mp q) ne_b343_b1216)
     have Ef1287 : Exa Z h1278 b343b "[B" := (Ef1262).keep K1278q
     have Vf1288 : Arv Z h1278 b343b kb343b .byte (1 : Int32) ((([v294] : List Int32).map (fun c => c.toInt8.toInt32)).map Value.int) (.int 0) := (Vf1263).keep K1278q (fun q => absurd (List.mem_singleton.mp q) ne_b343b_b1216)
     have Ef1289 : Exa Z h1278 b831 "java/util/Optional" := (Ef1264).keep K1278q
     have Ff1290 : Fld Z h1278 b831 "java/util/Optional" "value" "Ljava/lang/Object;" (.ref b343) := (Ff1265).keep K1278q (fun q => absurd (List.mem_singleton.mp q) ne_b831_b1216)
     have Ef1291 : Exa Z h1278 b1216 own_GU := (Ef1266).keep K1278q
     rw [e1278] at hC1278
     have CR1278 := CR1253.trans hC1278
     have hk1278 : T1278.heap.size ≤ h1278.size := by rw [e1278]; exact Nat.le_refl _
     have pre1292 : own_P p e below T1278 (mkF m 213 #[vI p0, vI p1, vI p2, vI p3, vI p4, vI v273, vI v279, vI v285, vI v291, vI v294, vI v297, vI v300, vI v303, vR b306, vR b343, vR b353, vR b831, vR b1077, vR b1201, .unset, .unset] [(.ref b1216)]) s₁ (own_E m p0 p1 p2 p3 p4) := fun t k => pre1277 t (st1278.trans k)
     have pre1293 : own_P p e below T1278 (mkF m 217 #[vI p0, vI p1, vI p2, vI p3, vI p4, vI v273, vI v279, vI v285, vI v291, vI v294, vI v297, vI v300, vI v303, vR b306, vR b343, vR b353, vR b831, vR b1077, vR b1201, vR b1216, .unset] [(.ref b1216)]) s₁ (own_E m p0 p1 p2 p3 p4) := by
      intro t k
      refine pre1292 t ?_
      refine XS.astore X1278.here hx rfl (hb hby at_213) rfl rfl (l' := #[vI p0, vI p1, vI p2, vI p3, vI p4, vI v273, vI v279, vI v285, vI v291, vI v294, vI v297, vI v300, vI v303, vR b306, vR b343, vR b353, vR b831, vR b1077, vR b1201, vR b1216, .unset]) rfl ?_
      refine XS.aload X1278.here hx rfl (hb hby at_215) rfl rfl ?_
      exact k
     obtain ⟨cq1294, kq1294, q1294a, q1294b, q1294c⟩ := isOf hZ1278 e1278 Q1278_0
     obtain ⟨_, _, ⟨T1294, L1294, k1294, n1294⟩, -, X1294r, hS1294r, hg1294r, ⟨Lc1294, hQ1294, l1294, y1294, z1294, hC1294⟩, st1294⟩ := X1278.virtualBackS hx (y := (⟨own_GU, "effectiveType", "()Ljava/lang/String;"⟩ : MethodName)) (z := (⟨own_GU, "effectiveType", "()Ljava/lang/String;"⟩ : MethodName)) ho1278 (mvT hZ1278 (own_w hw 73 rfl)) (mvT hZ1278 (own_w hw 74 rfl)) (notFace_of_selects (args := #[]) (mvT hZ1278 (own_w hw 76 rfl))) (mvT hZ1278 (own_w hw 76 rfl)) (mvT hZ1278 (own_w hw 75 rfl)) (by decide) (backOfSH (W := 0) (rm10_y l Z ar0 hw [] b1216 b831 b343 h1278 n0 Z1278 Q1278_0 Q1278_4 Ef1289 Ff1290 Ef1284) hZ1278 (own_w hw 77 rfl) (own_w hw 34 rfl) (by decide) (by decide) hEL CR1278.1) q1294a q1294c (g := (mkF m 217 #[vI p0, vI p1, vI p2, vI p3, vI p4, vI v273, vI v279, vI v285, vI v291, vI v294, vI v297, vI v300, vI v303, vR b306, vR b343, vR b353, vR b831, vR b1077, vR b1201, vR b1216, .unset] [(.ref b1216)])) rfl (by rw [hml]; rfl) (Steps.refl _) (argsL := []) (rest := []) (lenOf pd_12 rfl) rfl (by show 2 * 0 + _ ≤ _; exact Nat.le_of_eq rfl) (hb hby at_217) (fun _ _ => ⟨rfl, e1278, (by decide : 27 + 2 ≤ _), (by decide : 267 + 8 ≤ _)⟩)
     dsimp only [Pt.U, Pt.locs, Pt.cells, Pt.slots] at X1294r hS1294r hg1294r l1294 y1294 z1294 st1294 hQ1294 hC1294
     subst l1294 y1294 z1294
     obtain ⟨X1294, hS1294, hZ1294, ho1294⟩ := rebS (s := s) (vm0 := T1278.vm) (n1 := T1278.heap.size) hS1278 (by rw [e1278]; first | exact hk1278 | exact Nat.le_refl _) X1294r hS1294r hg1294r hZ1278 ho1278
     obtain ⟨h1294, e1294⟩ : ∃ h, T1294.heap = h := ⟨_, rfl⟩
     rw [e1294] at hQ1294
     obtain ⟨rfl, N1294q, K1294q⟩ := hQ1294
     have N1294 := Fr.app N1278 N1294q
     have Z1294 : n0 ≤ h1294.size := Nat.le_trans Z1278 K1294q.1
     have K1294 : Keep h0 h1294 [] := K1278.trans K1294q (fun x hx => absurd hx List.not_mem_nil)
     have Sf1295 : Sta Z h1294 "java/lang/String" "COMPACT_STRINGS" "Z" (.int gc1) := own_sta_keep0 Sf1279 K1294q
     have Sf1296 : Sta Z h1294 "jdk/internal/util/Preconditions" "SIOOBE_FORMATTER" "Ljava/util/function/BiFunction;" gf3 := own_sta_keep0 Sf1280 K1294q
     have Sf1297 : Sta Z h1294 "java/util/Optional" "EMPTY" "Ljava/util/Optional;" (.ref s_EMPTY) := own_sta_keep0 Sf1281 K1294q
     have Ef1298 : Exa Z h1294 s_EMPTY "java/util/Optional" := (Ef1282).keep K1294q
     have Ff1299 : Fld Z h1294 s_EMPTY "java/util/Optional" "value" "Ljava/lang/Object;" .null := (Ff1283).keep K1294q List.not_mem_nil
     have Ef1300 : Exa Z h1294 b343 "java/lang/String" := (Ef1284).keep K1294q
     have Ff1301 : Fld Z h1294 b343 "java/lang/String" "value" "[B" (.ref b343b) := (Ff1285).keep K1294q List.not_mem_nil
     have Ff1302 : Fld Z h1294 b343 "java/lang/String" "coder" "B" (.int 0) := (Ff1286).keep K1294q List.not_mem_nil
     have Ef1303 : Exa Z h1294 b343b "[B" := (Ef1287).keep K1294q
     have Vf1304 : Arv Z h1294 b343b kb343b .byte (1 : Int32) ((([v294] : List Int32).map (fun c => c.toInt8.toInt32)).map Value.int) (.int 0) := (Vf1288).keep K1294q List.not_mem_nil
     have Ef1305 : Exa Z h1294 b831 "java/util/Optional" := (Ef1289).keep K1294q
     have Ff1306 : Fld Z h1294 b831 "java/util/Optional" "value" "Ljava/lang/Object;" (.ref b343) := (Ff1290).keep K1294q List.not_mem_nil
     have Ef1307 : Exa Z h1294 b1216 own_GU := (Q1278_0).keep K1294q
     have Ff1308 : Fld Z h1294 b1216 own_GU "text" "Ljava/lang/String;" (.ref a1231) := (Q1278_1).keep K1294q List.not_mem_nil
     have Ff1309 : Fld Z h1294 b1216 own_GU "host" "Ljava/lang/String;" (.ref a1253) := (Q1278_2).keep K1294q List.not_mem_nil
     have Ff1310 : Fld Z h1294 b1216 own_GU "port" "Ljava/util/Optional;" (.ref b1201) := (Q1278_3).keep K1294q List.not_mem_nil
     have Ff1311 : Fld Z h1294 b1216 own_GU "type" "Ljava/util/Optional;" (.ref b831) := (Q1278_4).keep K1294q List.not_mem_nil
     have Ff1312 : Fld Z h1294 b1216 own_GU "selector" "Ljava/lang/String;" (.ref b353) := (Q1278_5).keep K1294q List.not_mem_nil
     have Ff1313 : Fld Z h1294 b1216 own_GU "search" "Ljava/util/Optional;" (.ref b1077) := (Q1278_6).keep K1294q List.not_mem_nil
     have Ff1314 : Fld Z h1294 b1216 own_GU "gopherPlus" "Ljava/util/Optional;" (.ref s_EMPTY) := (Q1278_7).keep K1294q List.not_mem_nil
     rw [e1294] at hC1294
     have CR1294 := CR1278.trans hC1294
     have hk1294 : T1294.heap.size ≤ h1294.size := by rw [e1294]; exact Nat.le_refl _
     have pre1315 : own_P p e below T1294 (mkF m 220 #[vI p0, vI p1, vI p2, vI p3, vI p4, vI v273, vI v279, vI v285, vI v291, vI v294, vI v297, vI v300, vI v303, vR b306, vR b343, vR b353, vR b831, vR b1077, vR b1201, vR b1216, .unset] [(.ref b343)]) s₁ (own_E m p0 p1 p2 p3 p4) := fun t k => pre1293 t (st1294.trans k)
     have pre1316 : own_P p e below T1294 (mkF m 238 #[vI p0, vI p1, vI p2, vI p3, vI p4, vI v273, vI v279, vI v285, vI v291, vI v294, vI v297, vI v300, vI v303, vR b306, vR b343, vR b353, vR b831, vR b1077, vR b1201, vR b1216, vR b343] [(.ref b343), (.ref b343)]) s₁ (own_E m p0 p1 p2 p3 p4) := by
      intro t k
      refine pre1315 t ?_
      refine XS.astore X1294.here hx rfl (hb hby at_220) rfl rfl (l' := #[vI p0, vI p1, vI p2, vI p3, vI p4, vI v273, vI v279, vI v285, vI v291, vI v294, vI v297, vI v300, vI v303, vR b306, vR b343, vR b353, vR b831, vR b1077, vR b1201, vR b1216, vR b343]) rfl ?_
      refine XS.aload X1294.here hx rfl (hb hby at_222) rfl rfl ?_
      refine XS.ifnonnullYes X1294.here hx rfl (pc0 := 224) (pc' := 229) rfl (hb hby at_224) rfl (by decide) (by decide) ?_
      refine XS.iload X1294.here hx rfl (hb hby at_229) rfl ?_
      refine XS.ifNo X1294.here hx rfl (hb hby at_231) rfl ((if0 _ _).trans (feq hc139_368).1) ?_
      refine XS.aload X1294.here hx rfl (hb hby at_234) rfl rfl ?_
      refine XS.aload X1294.here hx rfl (hb hby at_236) rfl rfl ?_
      exact k
     obtain ⟨cq1317, kq1317, q1317a, q1317b, q1317c⟩ := isOf hZ1294 e1294 Ef1300
     obtain ⟨_, _, ⟨T1317, L1317, k1317, n1317⟩, -, X1317, ⟨Lc1317, hQ1317, l1317, y1317, z1317⟩, st1317⟩ := X1294.virtualBack hx (y := (⟨"java/lang/String", "equals", "(Ljava/lang/Object;)Z"⟩ : MethodName)) (z := (⟨"java/lang/String", "equals", "(Ljava/lang/Object;)Z"⟩ : MethodName)) ho1294 (mvT hZ1294 (own_w hw 148 rfl)) (mvT hZ1294 (own_w hw 149 rfl)) (notFace_of_selects (args := #[]) (mvT hZ1294 (own_w hw 151 rfl))) (mvT hZ1294 (own_w hw 151 rfl)) (mvT hZ1294 (own_w hw 150 rfl)) (by decide) (backOf (W := 0) (rm27_s l Z ar0 hw [] b343 h1294 n0 Z1294) hZ1294 (own_w hw 152 rfl) (own_w hw 3 rfl) (by decide) (by decide)) q1317a q1317c (g := (mkF m 238 #[vI p0, vI p1, vI p2, vI p3, vI p4, vI v273, vI v279, vI v285, vI v291, vI v294, vI v297, vI v300, vI v303, vR b306, vR b343, vR b353, vR b831, vR b1077, vR b1201, vR b1216, vR b343] [(.ref b343), (.ref b343)])) rfl (by rw [hml]; rfl) (Steps.refl _) (argsL := [(.ref b343)]) (rest := []) (lenOf pd_15 rfl) rfl (by show 2 * 0 + _ ≤ _; exact Nat.le_of_eq rfl) (hb hby at_238) (fun _ _ => ⟨rfl, e1294, (by decide : 29 + 0 ≤ _), (by decide : 275 + 0 ≤ _)⟩)
     dsimp only [Pt.U, Pt.locs, Pt.cells, Pt.slots] at X1317 l1317 y1317 z1317 st1317 hQ1317
     subst l1317 y1317 z1317
     obtain ⟨rfl, N1317q, e1317⟩ := hQ1317
     have N1317 := Fr.app N1294 N1317q
     have pre1318 : own_P p e below T1317 (mkF m 241 #[vI p0, vI p1, vI p2, vI p3, vI p4, vI v273, vI v279, vI v285, vI v291, vI v294, vI v297, vI v300, vI v303, vR b306, vR b343, vR b353, vR b831, vR b1077, vR b1201, vR b1216, vR b343] [(.int 1)]) s₁ (own_E m p0 p1 p2 p3 p4) := fun t k => pre1316 t (st1317.trans k)
     obtain ⟨fs, hr, hrun, hended, hRW⟩ := X1317.leaveW (s := s) (vm₁ := T1294.vm) hS1294 (by rw [e1317]; first | exact hk1294 | exact Nat.le_refl _) (v := some (.int 1)) (fun h => by rw [Bd.returns] at h; cases h)
     refine ⟨_, _, pre1318 _ ?_, hrun, hended, _, _, rfl, ?_, hRW.1, hRW.2.1, hRW.2.2.1, hRW.2.2.2.mono (by decide) (by decide)⟩
     ·
      exact retN X1317 hx (t := .boolean) Bd.returns (by simp) (hb hby at_241) hr
     ·
      show Q0 Z p0 p1 p2 p3 p4 gc1 gf3 s_EMPTY h0 n0 _ T1317.heap _
      rw [e1317]
      exact ⟨rfl, N1317⟩
 ·
  have pre1319 : ∀ t, Steps p.tables e below (T332.setTop (mkF m 111 #[vI p0, vI p1, vI p2, vI p3, vI p4, vI v273, vI v279, vI v285, vI v291, vI v294, vI v297, vI v300, vI v303, vR b306, .unset, .unset, .unset, .unset, .unset, .unset, .unset] [])) t → Steps p.tables e below (s₁.setTop (own_E m p0 p1 p2 p3 p4)) t := by
   intro t k
   refine pre340 t ?_
   refine XS.ifNo X332.here hx rfl (hb hby at_108) rfl ((if0 _ _).trans (feq hc108_341).1) ?_
   exact k
  obtain ⟨T1320, h1320, X1320, e1320, E1320, A1320, D1320, -, st1320⟩ := newO X332 hx hZ hown (own_w hw 118 rfl) (own_w hw 11 rfl) (own_w hw 3 rfl) e332 (g := (mkF m 111 #[vI p0, vI p1, vI p2, vI p3, vI p4, vI v273, vI v279, vI v285, vI v291, vI v294, vI v297, vI v300, vI v303, vR b306, .unset, .unset, .unset, .unset, .unset, .unset, .unset] [])) rfl (hb hby at_111) (by decide) (by decide)
  obtain ⟨b1320, g1320⟩ : ∃ z, z = h332.size := ⟨_, rfl⟩
  rw [← g1320] at A1320 D1320 st1320
  have ne_s_EMPTY_b1320 : s_EMPTY ≠ b1320 := Nat.ne_of_lt (Nat.lt_of_lt_of_le (Ef336).lt (Nat.le_of_eq g1320.symm))
  have ne_b306_b1320 : b306 ≠ b1320 := Nat.ne_of_lt (Nat.lt_of_lt_of_le (Ef338).lt (Nat.le_of_eq g1320.symm))
  have g_b1320 : n0 ≤ b1320 := Nat.le_trans Z332 (Nat.le_of_eq g1320.symm)
  have sz_b1320 : h0.size ≤ b1320 := Nat.le_trans K332.1 (Nat.le_of_eq g1320.symm)
  have Z1320 : n0 ≤ h1320.size := Nat.le_trans Z332 E1320.1
  have K1320 : Keep h0 h1320 [] := K332.ext E1320
  have hk1320 := Nat.le_trans hk332 E1320.1
  have CR1320 := CR332.trans (CHr.ext E1320 CR332.1)
  have Sf1321 : Sta Z h1320 "java/lang/String" "COMPACT_STRINGS" "Z" (.int gc1) := (Sf333).ext E1320
  have Sf1322 : Sta Z h1320 "jdk/internal/util/Preconditions" "SIOOBE_FORMATTER" "Ljava/util/function/BiFunction;" gf3 := (Sf334).ext E1320
  have Sf1323 : Sta Z h1320 "java/util/Optional" "EMPTY" "Ljava/util/Optional;" (.ref s_EMPTY) := (Sf335).ext E1320
  have Ef1324 : Exa Z h1320 s_EMPTY "java/util/Optional" := (Ef336).ext E1320
  have Ff1325 : Fld Z h1320 s_EMPTY "java/util/Optional" "value" "Ljava/lang/Object;" .null := (Ff337).ext E1320
  have Ef1326 : Exa Z h1320 b306 "[C" := (Ef338).ext E1320
  have Vf1327 : Arv Z h1320 b306 k306 .char (3 : Int32) [(.int (nar .char v294)), (.int (nar .char v297)), (.int (nar .char v300))] (.int 0) := (V332).ext E1320
  have sf_b1320 := Safe.ext E1320 CR332.1 (Safe.new (Nat.le_of_eq g1320.symm))
  have Fvalue_b1320 : Fld Z h1320 b1320 "java/lang/String" "value" "[B" .null := D1320 (Or.inr (own_w hw 24 rfl)) (ty := (.array .byte)) (by decide)
  have Fcoder_b1320 : Fld Z h1320 b1320 "java/lang/String" "coder" "B" (.int 0) := D1320 (Or.inr (own_w hw 26 rfl)) (ty := .byte) (by decide)
  have pre1328 : own_P p e below T1320 (mkF m 114 #[vI p0, vI p1, vI p2, vI p3, vI p4, vI v273, vI v279, vI v285, vI v291, vI v294, vI v297, vI v300, vI v303, vR b306, .unset, .unset, .unset, .unset, .unset, .unset, .unset] [(.ref b1320)]) s₁ (own_E m p0 p1 p2 p3 p4) := fun t k => pre1319 t (st1320 t k)
  have pre1329 : own_P p e below T1320 (mkF m 117 #[vI p0, vI p1, vI p2, vI p3, vI p4, vI v273, vI v279, vI v285, vI v291, vI v294, vI v297, vI v300, vI v303, vR b306, .unset, .unset, .unset, .unset, .unset, .unset, .unset] [(.ref b306), (.ref b1320), (.ref b1320)]) s₁ (own_E m p0 p1 p2 p3 p4) := by
   intro t k
   refine pre1328 t ?_
   refine XS.dup X1320.here hx rfl (hb hby at_114) rfl rfl ?_
   refine XS.aload X1320.here hx rfl (hb hby at_115) rfl rfl ?_
   exact k
  have hp1331 : ∀ c ∈ ([(nar .char v294), (nar .char v297), (nar .char v300)] : List Int32), ¬ c < 0 ∧ ¬ (255 : Int32) < c := own_hp3 (own_rg1 hv294) (own_rg1 hv297) (own_rg1 hv300)
  obtain ⟨_, _, ⟨T1330, L1330, k1330, n1330⟩, -, X1330, ⟨Lc1330, hQ1330, l1330, y1330, z1330⟩, st1330⟩ := X1320.specialBack hx (y := (⟨"java/lang/String", "<init>", "([C)V"⟩ : MethodName)) rfl hown (mvT hZ (own_w hw 119 rfl)) (mvT hZ (own_w hw 120 rfl)) (mvT hZ (own_w hw 121 rfl)) (by decide) (StrChars.Road.backV (W := 1) hZ (own_words hw) (kI := 4) (own_w hw 11 rfl) (cs := ([(nar .char v294), (nar .char v297), (nar .char v300)] : List Int32)) (bs := (([(nar .char v294), (nar .char v297), (nar .char v300)] : List Int32)).map (fun c => c.toInt8.toInt32)) (n := 3) g_b1320 Z1320 A1320 Fvalue_b1320 Fcoder_b1320 Vf1327 Sf1321 P5 rfl rfl (by decide) (by decide) hp1331 rfl (by decide) (by decide)) (g := (mkF m 117 #[vI p0, vI p1, vI p2, vI p3, vI p4, vI v273, vI v279, vI v285, vI v291, vI v294, vI v297, vI v300, vI v303, vR b306, .unset, .unset, .unset, .unset, .unset, .unset, .unset] [(.ref b306), (.ref b1320), (.ref b1320)])) rfl (by rw [hml]; rfl) (Steps.refl _) (a := b1320) (argsL := [(.ref b306)]) (rest := [(.ref b1320)]) (lenOf pd_8 rfl) rfl (by show 2 * 0 + _ ≤ _; exact Nat.le_of_eq rfl) (hb hby at_117) (fun _ _ => ⟨rfl, e1320, (by decide : 2 + 1 ≤ _), (by decide : 7 + 3 ≤ _)⟩)
  dsimp only [Pt.U, Pt.locs, Pt.cells, Pt.slots] at X1330 l1330 y1330 z1330 st1330 hQ1330
  subst l1330 y1330 z1330
  obtain ⟨h1330, e1330⟩ : ∃ h, T1330.heap = h := ⟨_, rfl⟩
  rw [e1330] at hQ1330
  obtain ⟨rfl, N1330q, K1330q, QE1330, QC1330, t1330, kt1330, g_t1330, y_t1330, ne1330, QV1330, QB1330⟩ := hQ1330
  have N1330 := Fr.app N332 N1330q
  have ne_s_EMPTY_t1330 : s_EMPTY ≠ t1330 := Nat.ne_of_lt (Nat.lt_of_lt_of_le (Ef1324).lt y_t1330)
  have ne_b306_t1330 : b306 ≠ t1330 := Nat.ne_of_lt (Nat.lt_of_lt_of_le (Ef1326).lt y_t1330)
  have ne_b1320_t1330 : b1320 ≠ t1330 := Nat.ne_of_lt (Nat.lt_of_lt_of_le (A1320).lt y_t1330)
  have sz_t1330 : h0.size ≤ t1330 := Nat.le_trans K1320.1 y_t1330
  have Z1330 : n0 ≤ h1330.size := Nat.le_trans Z1320 K1330q.1
  have K1330 : Keep h0 h1330 [] := K1320.trans K1330q (fun x hx => by cases List.mem_singleton.mp hx; exact Or.inr sz_b1320)
  have hk1330 := Nat.le_trans hk1320 K1330q.1
  have sf_b1320_1330 := Safe.keep K1330q (sfS sf_b1320 sf0) CR1320.1 sf_b1320
  have CR1330 := CR1320.trans (CHr.keep K1330q (sfS sf_b1320 sf0) CR1320.1)
  have Sf1332 : Sta Z h1330 "java/lang/String" "COMPACT_STRINGS" "Z" (.int gc1) := own_sta_keep Sf1321 K1330q (own_ns1 (own_ns_exa A1320))
  have Sf1333 : Sta Z h1330 "jdk/internal/util/Preconditions" "SIOOBE_FORMATTER" "Ljava/util/function/BiFunction;" gf3 := own_sta_keep Sf1322 K1330q (own_ns1 (own_ns_exa A1320))
  have Sf1334 : Sta Z h1330 "java/util/Optional" "EMPTY" "Ljava/util/Optional;" (.ref s_EMPTY) := own_sta_keep Sf1323 K1330q (own_ns1 (own_ns_exa A1320))
  have Ef1335 : Exa Z h1330 s_EMPTY "java/util/Optional" := (Ef1324).keep K1330q
  have Ff1336 : Fld Z h1330 s_EMPTY "java/util/Optional" "value" "Ljava/lang/Object;" .null := (Ff1325).keep K1330q (fun q => absurd (List.mem_singleton.mp q) ne_s_EMPTY_b1320)
  have Ef1337 : Exa Z h1330 b306 "[C" := (Ef1326).keep K1330q
  have Vf1338 : Arv Z h1330 b306 k306 .char (3 : Int32) [(.int (nar .char v294)), (.int (nar .char v297)), (.int (nar .char v300))] (.int 0) := (Vf1327).keep K1330q (fun q => absurd (List.mem_singleton.mp q) ne_b306_b1320)
  have hcd1330 : StrChars.Road.CodA ([(nar .char v294), (nar .char v297), (nar .char v300)] : List Int32) 0 (3 : Int32) ((([(nar .char v294), (nar .char v297), (nar .char v300)] : List Int32).map (fun c => c.toInt8.toInt32)).map Value.int) := StrChars.Road.codOf (n := 3) rfl (fun x hx => (hp1331 x hx).2)
  have hbd1330 := own_up _ hp1331
  have pre1339 : own_P p e below T1330 (mkF m 120 #[vI p0, vI p1, vI p2, vI p3, vI p4, vI v273, vI v279, vI v285, vI v291, vI v294, vI v297, vI v300, vI v303, vR b306, .unset, .unset, .unset, .unset, .unset, .unset, .unset] [(.ref b1320)]) s₁ (own_E m p0 p1 p2 p3 p4) := fun t k => pre1329 t (st1330.trans k)
  have pre1340 : own_P p e below T1330 (mkF m 132 #[vI p0, vI p1, vI p2, vI p3, vI p4, vI v273, vI v279, vI v285, vI v291, vI v294, vI v297, vI v300, vI v303, vR b306, vR b1320, .unset, .unset, .unset, .unset, .unset, .unset] [(.int v303)]) s₁ (own_E m p0 p1 p2 p3 p4) := by
   intro t k
   refine pre1339 t ?_
   refine XS.goto X1330.here hx rfl (pc0 := 120) (pc' := 128) rfl (hb hby at_120) (by decide) (by decide) ?_
   refine XS.astore X1330.here hx rfl (hb hby at_128) rfl rfl (l' := #[vI p0, vI p1, vI p2, vI p3, vI p4, vI v273, vI v279, vI v285, vI v291, vI v294, vI v297, vI v300, vI v303, vR b306, vR b1320, .unset, .unset, .unset, .unset, .unset, .unset]) rfl ?_
   refine XS.iload X1330.here hx rfl (hb hby at_130) rfl ?_
   exact k
  obtain ⟨_, _, ⟨T1341, L1341, k1341, n1341⟩, -, X1341, ⟨Lc1341, hQ1341, l1341, y1341, z1341⟩, st1341⟩ := Jvm.LawKit.callS X1330 hx (y := (⟨"java/lang/String", "valueOf", "(C)Ljava/lang/String;"⟩ : MethodName)) hown (mvT hZ (own_w hw 1 rfl)) (mvT hZ (own_w hw 2 rfl)) (mvT hZ (own_w hw 3 rfl)) (mvT hZ (own_w hw 4 rfl)) (by decide) (backOf (W := 0) (rm1 l Z ar0 hw [] v303 gc1 h1330 n0 Z1330 P5 (own_rg1 hv303) Sf1332) hZ (own_w hw 4 rfl) (own_w hw 3 rfl) (by decide) (by decide)) (g := (mkF m 132 #[vI p0, vI p1, vI p2, vI p3, vI p4, vI v273, vI v279, vI v285, vI v291, vI v294, vI v297, vI v300, vI v303, vR b306, vR b1320, .unset, .unset, .unset, .unset, .unset, .unset] [(.int v303)])) rfl (by rw [hml]; rfl) (argsL := [(.int v303)]) (rest := []) (lenOf pd_7 rfl) rfl (by show 2 * 0 + _ ≤ _; exact Nat.le_of_eq rfl) (hb hby at_132) (fun _ _ => ⟨rfl, e1330, (by decide : 3 + 2 ≤ _), (by decide : 10 + 5 ≤ _)⟩)
  dsimp only [Pt.U, Pt.locs, Pt.cells, Pt.slots] at X1341 l1341 y1341 z1341 st1341 hQ1341
  subst l1341 y1341 z1341
  obtain ⟨h1341, e1341⟩ : ∃ h, T1341.heap = h := ⟨_, rfl⟩
  rw [e1341] at hQ1341
  obtain ⟨b1341, b1341b, kb1341b, rfl, N1341q, K1341q, y_b1341, Ob1341_0, Ob1341_1, Ob1341_2, y_b1341b, Ob1341b_0, Ob1341b_1⟩ := hQ1341
  have N1341 := Fr.app N1330 N1341q
  have ne_s_EMPTY_b1341 : s_EMPTY ≠ b1341 := Nat.ne_of_lt (Nat.lt_of_lt_of_le (Ef1335).lt y_b1341)
  have ne_b306_b1341 : b306 ≠ b1341 := Nat.ne_of_lt (Nat.lt_of_lt_of_le (Ef1337).lt y_b1341)
  have ne_b1320_b1341 : b1320 ≠ b1341 := Nat.ne_of_lt (Nat.lt_of_lt_of_le (QE1330).lt y_b1341)
  have ne_t1330_b1341 : t1330 ≠ b1341 := Nat.ne_of_lt (Nat.lt_of_lt_of_le (QB1330).lt y_b1341)
  have g_b1341 : n0 ≤ b1341 := Nat.le_trans Z1330 y_b1341
  have sz_b1341 : h0.size ≤ b1341 := Nat.le_trans K1330.1 y_b1341
  have ne_s_EMPTY_b1341b : s_EMPTY ≠ b1341b := Nat.ne_of_lt (Nat.lt_of_lt_of_le (Ef1335).lt y_b1341b)
  have ne_b306_b1341b : b306 ≠ b1341b := Nat.ne_of_lt (Nat.lt_of_lt_of_le (Ef1337).lt y_b1341b)
  have ne_b1320_b1341b : b1320 ≠ b1341b := Nat.ne_of_lt (Nat.lt_of_lt_of_le (QE1330).lt y_b1341b)
  have ne_t1330_b1341b : t1330 ≠ b1341b := Nat.ne_of_lt (Nat.lt_of_lt_of_le (QB1330).lt y_b1341b)
  have g_b1341b : n0 ≤ b1341b := Nat.le_trans Z1330 y_b1341b
  have sz_b1341b : h0.size ≤ b1341b := Nat.le_trans K1330.1 y_b1341b
  have Z1341 : n0 ≤ h1341.size := Nat.le_trans Z1330 K1341q.1
  have hk1341 := Nat.le_trans hk1330 K1341q.1
  have K1341 : Keep h0 h1341 [] := K1330.trans K1341q (fun x hx => absurd hx List.not_mem_nil)
  have sf_b1320_1341 := Safe.keep K1341q sf0 CR1330.1 sf_b1320_1330
  have CR1341 := CR1330.trans (CHr.keep K1341q sf0 CR1330.1)
  have Sf1342 : Sta Z h1341 "java/lang/String" "COMPACT_STRINGS" "Z" (.int gc1) := own_sta_keep0 Sf1332 K1341q
  have Sf1343 : Sta Z h1341 "jdk/internal/util/Preconditions" "SIOOBE_FORMATTER" "Ljava/util/function/BiFunction;" gf3 := own_sta_keep0 Sf1333 K1341q
  have Sf1344 : Sta Z h1341 "java/util/Optional" "EMPTY" "Ljava/util/Optional;" (.ref s_EMPTY) := own_sta_keep0 Sf1334 K1341q
  have Ef1345 : Exa Z h1341 s_EMPTY "java/util/Optional" := (Ef1335).keep K1341q
  have Ff1346 : Fld Z h1341 s_EMPTY "java/util/Optional" "value" "Ljava/lang/Object;" .null := (Ff1336).keep K1341q List.not_mem_nil
  have Ef1347 : Exa Z h1341 b306 "[C" := (Ef1337).keep K1341q
  have Vf1348 : Arv Z h1341 b306 k306 .char (3 : Int32) [(.int (nar .char v294)), (.int (nar .char v297)), (.int (nar .char v300))] (.int 0) := (Vf1338).keep K1341q List.not_mem_nil
  have Ef1349 : Exa Z h1341 b1320 "java/lang/String" := (QE1330).keep K1341q
  have Ff1350 : Fld Z h1341 b1320 "java/lang/String" "coder" "B" (.int 0) := (QC1330).keep K1341q List.not_mem_nil
  have Ff1351 : Fld Z h1341 b1320 "java/lang/String" "value" "[B" (.ref t1330) := (QV1330).keep K1341q List.not_mem_nil
  have Vf1352 : Arv Z h1341 t1330 kt1330 .byte (3 : Int32) ((([(nar .char v294), (nar .char v297), (nar .char v300)] : List Int32).map (fun c => c.toInt8.toInt32)).map Value.int) (.int 0) := (QB1330).keep K1341q List.not_mem_nil
  have pre1353 : own_P p e below T1341 (mkF m 135 #[vI p0, vI p1, vI p2, vI p3, vI p4, vI v273, vI v279, vI v285, vI v291, vI v294, vI v297, vI v300, vI v303, vR b306, vR b1320, .unset, .unset, .unset, .unset, .unset, .unset] [(.ref b1341)]) s₁ (own_E m p0 p1 p2 p3 p4) := fun t k => pre1340 t (st1341 t k)
  have pre1354 : own_P p e below T1341 (mkF m 139 #[vI p0, vI p1, vI p2, vI p3, vI p4, vI v273, vI v279, vI v285, vI v291, vI v294, vI v297, vI v300, vI v303, vR b306, vR b1320, vR b1341, .unset, .unset, .unset, .unset, .unset] [(.int v273)]) s₁ (own_E m p0 p1 p2 p3 p4) := by
   intro t k
   refine pre1353 t ?_
   refine XS.astore X1341.here hx rfl (hb hby at_135) rfl rfl (l' := #[vI p0, vI p1, vI p2, vI p3, vI p4, vI v273, vI v279, vI v285, vI v291, vI v294, vI v297, vI v300, vI v303, vR b306, vR b1320, vR b1341, .unset, .unset, .unset, .unset, .unset]) rfl ?_
   refine XS.iload X1341.here hx rfl (hb hby at_137) rfl ?_
   exact k
  by_cases hc139_1355 : v273 = (0 : Int32)
  ·
   have pre1356 : ∀ t, Steps p.tables e below (T1341.setTop (mkF m 150 #[vI p0, vI p1, vI p2, vI p3, vI p4, vI v273, vI v279, vI v285, vI v291, vI v294, vI v297, vI v300, vI v303, vR b306, vR b1320, vR b1341, .unset, .unset, .unset, .unset, .unset] [])) t → Steps p.tables e below (s₁.setTop (own_E m p0 p1 p2 p3 p4)) t := by
    intro t k
    refine pre1354 t ?_
    refine XS.ifYes X1341.here hx rfl (pc0 := 139) (pc' := 150) rfl (hb hby at_139) rfl ((if0 _ _).trans (teq hc139_1355).1) (by decide) (by decide) ?_
    exact k
   obtain ⟨_, _, ⟨T1357, L1357, k1357, n1357⟩, -, X1357, ⟨Lc1357, hQ1357, l1357, y1357, z1357⟩, st1357⟩ := Jvm.LawKit.callS X1341 hx (y := (⟨"java/util/Optional", "empty", "()Ljava/util/Optional;"⟩ : MethodName)) hown (mvT hZ (own_w hw 27 rfl)) (mvT hZ (own_w hw 28 rfl)) (mvT hZ (own_w hw 29 rfl)) (mvT hZ (own_w hw 30 rfl)) (by decide) (backOf (W := 0) (rm6 l Z ar0 hw [] s_EMPTY h1341 n0 Z1341 Sf1344) hZ (own_w hw 30 rfl) (own_w hw 29 rfl) (by decide) (by decide)) (g := (mkF m 150 #[vI p0, vI p1, vI p2, vI p3, vI p4, vI v273, vI v279, vI v285, vI v291, vI v294, vI v297, vI v300, vI v303, vR b306, vR b1320, vR b1341, .unset, .unset, .unset, .unset, .unset] [])) rfl (by rw [hml]; rfl) (argsL := []) (rest := []) (lenOf pd_9 rfl) rfl (by show 2 * 0 + _ ≤ _; exact Nat.le_of_eq rfl) (hb hby at_150) (fun _ _ => ⟨rfl, e1341, (by decide : 5 + 0 ≤ _), (by decide : 15 + 0 ≤ _)⟩)
   dsimp only [Pt.U, Pt.locs, Pt.cells, Pt.slots] at X1357 l1357 y1357 z1357 st1357 hQ1357
   subst l1357 y1357 z1357
   obtain ⟨rfl, N1357q, e1357⟩ := hQ1357
   have N1357 := Fr.app N1341 N1357q
   have pre1358 : own_P p e below T1357 (mkF m 153 #[vI p0, vI p1, vI p2, vI p3, vI p4, vI v273, vI v279, vI v285, vI v291, vI v294, vI v297, vI v300, vI v303, vR b306, vR b1320, vR b1341, .unset, .unset, .unset, .unset, .unset] [(.ref s_EMPTY)]) s₁ (own_E m p0 p1 p2 p3 p4) := fun t k => pre1356 t (st1357 t k)
   have pre1359 : own_P p e below T1357 (mkF m 157 #[vI p0, vI p1, vI p2, vI p3, vI p4, vI v273, vI v279, vI v285, vI v291, vI v294, vI v297, vI v300, vI v303, vR b306, vR b1320, vR b1341, vR s_EMPTY, .unset, .unset, .unset, .unset] [(.int v285)]) s₁ (own_E m p0 p1 p2 p3 p4) := by
    intro t k
    refine pre1358 t ?_
    refine XS.astore X1357.here hx rfl (hb hby at_153) rfl rfl (l' := #[vI p0, vI p1, vI p2, vI p3, vI p4, vI v273, vI v279, vI v285, vI v291, vI v294, vI v297, vI v300, vI v303, vR b306, vR b1320, vR b1341, vR s_EMPTY, .unset, .unset, .unset, .unset]) rfl ?_
    refine XS.iload X1357.here hx rfl (hb hby at_155) rfl ?_
    exact k
   by_cases hc157_1360 : v285 = (0 : Int32)
   ·
    have pre1361 : ∀ t, Steps p.tables e below (T1357.setTop (mkF m 168 #[vI p0, vI p1, vI p2, vI p3, vI p4, vI v273, vI v279, vI v285, vI v291, vI v294, vI v297, vI v300, vI v303, vR b306, vR b1320, vR b1341, vR s_EMPTY, .unset, .unset, .unset, .unset] [])) t → Steps p.tables e below (s₁.setTop (own_E m p0 p1 p2 p3 p4)) t := by
     intro t k
     refine pre1359 t ?_
     refine XS.ifYes X1357.here hx rfl (pc0 := 157) (pc' := 168) rfl (hb hby at_157) rfl ((if0 _ _).trans (teq hc157_1360).1) (by decide) (by decide) ?_
     exact k
    obtain ⟨_, _, ⟨T1362, L1362, k1362, n1362⟩, -, X1362, ⟨Lc1362, hQ1362, l1362, y1362, z1362⟩, st1362⟩ := Jvm.LawKit.callS X1357 hx (y := (⟨"java/util/Optional", "empty", "()Ljava/util/Optional;"⟩ : MethodName)) hown (mvT hZ (own_w hw 27 rfl)) (mvT hZ (own_w hw 28 rfl)) (mvT hZ (own_w hw 29 rfl)) (mvT hZ (own_w hw 30 rfl)) (by decide) (backOf (W := 0) (rm6 l Z ar0 hw [] s_EMPTY h1341 n0 Z1341 Sf1344) hZ (own_w hw 30 rfl) (own_w hw 29 rfl) (by decide) (by decide)) (g := (mkF m 168 #[vI p0, vI p1, vI p2, vI p3, vI p4, vI v273, vI v279, vI v285, vI v291, vI v294, vI v297, vI v300, vI v303, vR b306, vR b1320, vR b1341, vR s_EMPTY, .unset, .unset, .unset, .unset] [])) rfl (by rw [hml]; rfl) (argsL := []) (rest := []) (lenOf pd_9 rfl) rfl (by show 2 * 0 + _ ≤ _; exact Nat.le_of_eq rfl) (hb hby at_168) (fun _ _ => ⟨rfl, e1357, (by decide : 5 + 0 ≤ _), (by decide : 15 + 0 ≤ _)⟩)
    dsimp only [Pt.U, Pt.locs, Pt.cells, Pt.slots] at X1362 l1362 y1362 z1362 st1362 hQ1362
    subst l1362 y1362 z1362
    obtain ⟨rfl, N1362q, e1362⟩ := hQ1362
    have N1362 := Fr.app N1357 N1362q
    have pre1363 : own_P p e below T1362 (mkF m 171 #[vI p0, vI p1, vI p2, vI p3, vI p4, vI v273, vI v279, vI v285, vI v291, vI v294, vI v297, vI v300, vI v303, vR b306, vR b1320, vR b1341, vR s_EMPTY, .unset, .unset, .unset, .unset] [(.ref s_EMPTY)]) s₁ (own_E m p0 p1 p2 p3 p4) := fun t k => pre1361 t (st1362 t k)
    have pre1364 : own_P p e below T1362 (mkF m 175 #[vI p0, vI p1, vI p2, vI p3, vI p4, vI v273, vI v279, vI v285, vI v291, vI v294, vI v297, vI v300, vI v303, vR b306, vR b1320, vR b1341, vR s_EMPTY, vR s_EMPTY, .unset, .unset, .unset] [(.int v291)]) s₁ (own_E m p0 p1 p2 p3 p4) := by
     intro t k
     refine pre1363 t ?_
     refine XS.astore X1362.here hx rfl (hb hby at_171) rfl rfl (l' := #[vI p0, vI p1, vI p2, vI p3, vI p4, vI v273, vI v279, vI v285, vI v291, vI v294, vI v297, vI v300, vI v303, vR b306, vR b1320, vR b1341, vR s_EMPTY, vR s_EMPTY, .unset, .unset, .unset]) rfl ?_
     refine XS.iload X1362.here hx rfl (hb hby at_173) rfl ?_
     exact k
    by_cases hc175_1365 : v291 = (0 : Int32)
    ·
     have pre1366 : ∀ t, Steps p.tables e below (T1362.setTop (mkF m 186 #[vI p0, vI p1, vI p2, vI p3, vI p4, vI v273, vI v279, vI v285, vI v291, vI v294, vI v297, vI v300, vI v303, vR b306, vR b1320, vR b1341, vR s_EMPTY, vR s_EMPTY, .unset, .unset, .unset] [])) t → Steps p.tables e below (s₁.setTop (own_E m p0 p1 p2 p3 p4)) t := by
      intro t k
      refine pre1364 t ?_
      refine XS.ifYes X1362.here hx rfl (pc0 := 175) (pc' := 186) rfl (hb hby at_175) rfl ((if0 _ _).trans (teq hc175_1365).1) (by decide) (by decide) ?_
      exact k
     obtain ⟨_, _, ⟨T1367, L1367, k1367, n1367⟩, -, X1367, ⟨Lc1367, hQ1367, l1367, y1367, z1367⟩, st1367⟩ := Jvm.LawKit.callS X1362 hx (y := (⟨"java/util/Optional", "empty", "()Ljava/util/Optional;"⟩ : MethodName)) hown (mvT hZ (own_w hw 27 rfl)) (mvT hZ (own_w hw 28 rfl)) (mvT hZ (own_w hw 29 rfl)) (mvT hZ (own_w hw 30 rfl)) (by decide) (backOf (W := 0) (rm6 l Z ar0 hw [] s_EMPTY h1341 n0 Z1341 Sf1344) hZ (own_w hw 30 rfl) (own_w hw 29 rfl) (by decide) (by decide)) (g := (mkF m 186 #[vI p0, vI p1, vI p2, vI p3, vI p4, vI v273, vI v279, vI v285, vI v291, vI v294, vI v297, vI v300, vI v303, vR b306, vR b1320, vR b1341, vR s_EMPTY, vR s_EMPTY, .unset, .unset, .unset] [])) rfl (by rw [hml]; rfl) (argsL := []) (rest := []) (lenOf pd_9 rfl) rfl (by show 2 * 0 + _ ≤ _; exact Nat.le_of_eq rfl) (hb hby at_186) (fun _ _ => ⟨rfl, e1362, (by decide : 5 + 0 ≤ _), (by decide : 15 + 0 ≤ _)⟩)
     dsimp only [Pt.U, Pt.locs, Pt.cells, Pt.slots] at X1367 l1367 y1367 z1367 st1367 hQ1367
     subst l1367 y1367 z1367
     obtain ⟨rfl, N1367q, e1367⟩ := hQ1367
     have N1367 := Fr.app N1362 N1367q
     have pre1368 : own_P p e below T1367 (mkF m 189 #[vI p0, vI p1, vI p2, vI p3, vI p4, vI v273, vI v279, vI v285, vI v291, vI v294, vI v297, vI v300, vI v303, vR b306, vR b1320, vR b1341, vR s_EMPTY, vR s_EMPTY, .unset, .unset, .unset] [(.ref s_EMPTY)]) s₁ (own_E m p0 p1 p2 p3 p4) := fun t k => pre1366 t (st1367 t k)
     have pre1369 : own_P p e below T1367 (mkF m 191 #[vI p0, vI p1, vI p2, vI p3, vI p4, vI v273, vI v279, vI v285, vI v291, vI v294, vI v297, vI v300, vI v303, vR b306, vR b1320, vR b1341, vR s_EMPTY, vR s_EMPTY, vR s_EMPTY, .unset, .unset] []) s₁ (own_E m p0 p1 p2 p3 p4) := by
      intro t k
      refine pre1368 t ?_
      refine XS.astore X1367.here hx rfl (hb hby at_189) rfl rfl (l' := #[vI p0, vI p1, vI p2, vI p3, vI p4, vI v273, vI v279, vI v285, vI v291, vI v294, vI v297, vI v300, vI v303, vR b306, vR b1320, vR b1341, vR s_EMPTY, vR s_EMPTY, vR s_EMPTY, .unset, .unset]) rfl ?_
      exact k
     obtain ⟨T1370, h1370, X1370, e1370, E1370, A1370, D1370, -, st1370⟩ := newO X1367 hx hZ hown (own_w hw 32 rfl) (own_w hw 33 rfl) (own_w hw 34 rfl) e1367 (g := (mkF m 191 #[vI p0, vI p1, vI p2, vI p3, vI p4, vI v273, vI v279, vI v285, vI v291, vI v294, vI v297, vI v300, vI v303, vR b306, vR b1320, vR b1341, vR s_EMPTY, vR s_EMPTY, vR s_EMPTY, .unset, .unset] [])) rfl (hb hby at_191) (by decide) (by decide)
     obtain ⟨b1370, g1370⟩ : ∃ z, z = h1341.size := ⟨_, rfl⟩
     rw [← g1370] at A1370 D1370 st1370
     have ne_s_EMPTY_b1370 : s_EMPTY ≠ b1370 := Nat.ne_of_lt (Nat.lt_of_lt_of_le (Ef1345).lt (Nat.le_of_eq g1370.symm))
     have ne_b1320_b1370 : b1320 ≠ b1370 := Nat.ne_of_lt (Nat.lt_of_lt_of_le (Ef1349).lt (Nat.le_of_eq g1370.symm))
     have ne_t1330_b1370 : t1330 ≠ b1370 := Nat.ne_of_lt (Nat.lt_of_lt_of_le (Vf1352).lt (Nat.le_of_eq g1370.symm))
     have g_b1370 : n0 ≤ b1370 := Nat.le_trans Z1341 (Nat.le_of_eq g1370.symm)
     have sz_b1370 : h0.size ≤ b1370 := Nat.le_trans K1341.1 (Nat.le_of_eq g1370.symm)
     have Z1370 : n0 ≤ h1370.size := Nat.le_trans Z1341 E1370.1
     have K1370 : Keep h0 h1370 [] := K1341.ext E1370
     have hk1370 := Nat.le_trans hk1341 E1370.1
     have sf_b1320_1370 := Safe.ext E1370 CR1341.1 sf_b1320_1341
     have CR1370 := CR1341.trans (CHr.ext E1370 CR1341.1)
     have Sf1371 : Sta Z h1370 "java/lang/String" "COMPACT_STRINGS" "Z" (.int gc1) := (Sf1342).ext E1370
     have Sf1372 : Sta Z h1370 "jdk/internal/util/Preconditions" "SIOOBE_FORMATTER" "Ljava/util/function/BiFunction;" gf3 := (Sf1343).ext E1370
     have Sf1373 : Sta Z h1370 "java/util/Optional" "EMPTY" "Ljava/util/Optional;" (.ref s_EMPTY) := (Sf1344).ext E1370
     have Ef1374 : Exa Z h1370 s_EMPTY "java/util/Optional" := (Ef1345).ext E1370
     have Ff1375 : Fld Z h1370 s_EMPTY "java/util/Optional" "value" "Ljava/lang/Object;" .null := (Ff1346).ext E1370
     have Ef1376 : Exa Z h1370 b1320 "java/lang/String" := (Ef1349).ext E1370
     have Ff1377 : Fld Z h1370 b1320 "java/lang/String" "coder" "B" (.int 0) := (Ff1350).ext E1370
     have Ff1378 : Fld Z h1370 b1320 "java/lang/String" "value" "[B" (.ref t1330) := (Ff1351).ext E1370
     have Vf1379 : Arv Z h1370 t1330 kt1330 .byte (3 : Int32) ((([(nar .char v294), (nar .char v297), (nar .char v300)] : List Int32).map (fun c => c.toInt8.toInt32)).map Value.int) (.int 0) := (Vf1352).ext E1370
     have Ftext_b1370 : Fld Z h1370 b1370 own_GU "text" "Ljava/lang/String;" .null := D1370 (Or.inr (own_w hw 60 rfl)) (ty := (.object "java/lang/String")) (by decide)
     have Fhost_b1370 : Fld Z h1370 b1370 own_GU "host" "Ljava/lang/String;" .null := D1370 (Or.inr (own_w hw 62 rfl)) (ty := (.object "java/lang/String")) (by decide)
     have Fport_b1370 : Fld Z h1370 b1370 own_GU "port" "Ljava/util/Optional;" .null := D1370 (Or.inr (own_w hw 64 rfl)) (ty := (.object "java/util/Optional")) (by decide)
     have Ftype_b1370 : Fld Z h1370 b1370 own_GU "type" "Ljava/util/Optional;" .null := D1370 (Or.inr (own_w hw 66 rfl)) (ty := (.object "java/util/Optional")) (by decide)
     have Fselector_b1370 : Fld Z h1370 b1370 own_GU "selector" "Ljava/lang/String;" .null := D1370 (Or.inr (own_w hw 68 rfl)) (ty := (.object "java/lang/String")) (by decide)
     have Fsearch_b1370 : Fld Z h1370 b1370 own_GU "search" "Ljava/util/Optional;" .null := D1370 (Or.inr (own_w hw 70 rfl)) (ty := (.object "java/util/Optional")) (by decide)
     have FgopherPlus_b1370 : Fld Z h1370 b1370 own_GU "gopherPlus" "Ljava/util/Optional;" .null := D1370 (Or.inr (own_w hw 72 rfl)) (ty := (.object "java/util/Optional")) (by decide)
     have pre1380 : own_P p e below T1370 (mkF m 194 #[vI p0, vI p1, vI p2, vI p3, vI p4, vI v273, vI v279, vI v285, vI v291, vI v294, vI v297, vI v300, vI v303, vR b306, vR b1320, vR b1341, vR s_EMPTY, vR s_EMPTY, vR s_EMPTY, .unset, .unset] [(.ref b1370)]) s₁ (own_E m p0 p1 p2 p3 p4) := fun t k => pre1369 t (st1370 t k)
     have pre1381 : own_P p e below T1370 (mkF m 195 #[vI p0, vI p1, vI p2, vI p3, vI p4, vI v273, vI v279, vI v285, vI v291, vI v294, vI v297, vI v300, vI v303, vR b306, vR b1320, vR b1341, vR s_EMPTY, vR s_EMPTY, vR s_EMPTY, .unset, .unset] [(.ref b1370), (.ref b1370)]) s₁ (own_E m p0 p1 p2 p3 p4) := by
      intro t k
      refine pre1380 t ?_
      refine XS.dup X1370.here hx rfl (hb hby at_194) rfl rfl ?_
      exact k
     obtain ⟨a1382, T1382, h1382, k1382, X1382, e1382, E1382, hS1382, hk1382, hZ1382, ho1382, hC1382, -, st1382⟩ := ldcOH (s := s) (vm0 := s.vm) X1370 hx hZ hown (own_w hw 35 rfl) (own_strW hw) e1370 hS0 hk1370 hEL CR1370.1 (g := (mkF m 195 #[vI p0, vI p1, vI p2, vI p3, vI p4, vI v273, vI v279, vI v285, vI v291, vI v294, vI v297, vI v300, vI v303, vR b306, vR b1320, vR b1341, vR s_EMPTY, vR s_EMPTY, vR s_EMPTY, .unset, .unset] [(.ref b1370), (.ref b1370)])) rfl (hb hby at_195) (n := 44) (by decide) (by decide) (by decide) (by decide)
     have sf_b1320_1382 := CHr.safe hC1382 (Ef1376).lt sf_b1320_1370
     have CR1382 := CR1370.trans hC1382
     have Z1382 : n0 ≤ h1382.size := Nat.le_trans Z1370 E1382.1
     have K1382 : Keep h0 h1382 [] := K1370.ext E1382
     have Sf1383 : Sta Z h1382 "java/lang/String" "COMPACT_STRINGS" "Z" (.int gc1) := (Sf1371).ext E1382
     have Sf1384 : Sta Z h1382 "jdk/internal/util/Preconditions" "SIOOBE_FORMATTER" "Ljava/util/function/BiFunction;" gf3 := (Sf1372).ext E1382
     have Sf1385 : Sta Z h1382 "java/util/Optional" "EMPTY" "Ljava/util/Optional;" (.ref s_EMPTY) := (Sf1373).ext E1382
     have Ef1386 : Exa Z h1382 s_EMPTY "java/util/Optional" := (Ef1374).ext E1382
     have Ff1387 : Fld Z h1382 s_EMPTY "java/util/Optional" "value" "Ljava/lang/Object;" .null := (Ff1375).ext E1382
     have Ef1388 : Exa Z h1382 b1320 "java/lang/String" := (Ef1376).ext E1382
     have Ff1389 : Fld Z h1382 b1320 "java/lang/String" "coder" "B" (.int 0) := (Ff1377).ext E1382
     have Ff1390 : Fld Z h1382 b1320 "java/lang/String" "value" "[B" (.ref t1330) := (Ff1378).ext E1382
     have Vf1391 : Arv Z h1382 t1330 kt1330 .byte (3 : Int32) ((([(nar .char v294), (nar .char v297), (nar .char v300)] : List Int32).map (fun c => c.toInt8.toInt32)).map Value.int) (.int 0) := (Vf1379).ext E1382
     have Ef1392 : Exa Z h1382 b1370 own_GU := (A1370).ext E1382
     have Ff1393 : Fld Z h1382 b1370 own_GU "text" "Ljava/lang/String;" .null := (Ftext_b1370).ext E1382
     have Ff1394 : Fld Z h1382 b1370 own_GU "host" "Ljava/lang/String;" .null := (Fhost_b1370).ext E1382
     have Ff1395 : Fld Z h1382 b1370 own_GU "port" "Ljava/util/Optional;" .null := (Fport_b1370).ext E1382
     have Ff1396 : Fld Z h1382 b1370 own_GU "type" "Ljava/util/Optional;" .null := (Ftype_b1370).ext E1382
     have Ff1397 : Fld Z h1382 b1370 own_GU "selector" "Ljava/lang/String;" .null := (Fselector_b1370).ext E1382
     have Ff1398 : Fld Z h1382 b1370 own_GU "search" "Ljava/util/Optional;" .null := (Fsearch_b1370).ext E1382
     have Ff1399 : Fld Z h1382 b1370 own_GU "gopherPlus" "Ljava/util/Optional;" .null := (FgopherPlus_b1370).ext E1382
     have pre1400 : own_P p e below T1382 (mkF m 197 #[vI p0, vI p1, vI p2, vI p3, vI p4, vI v273, vI v279, vI v285, vI v291, vI v294, vI v297, vI v300, vI v303, vR b306, vR b1320, vR b1341, vR s_EMPTY, vR s_EMPTY, vR s_EMPTY, .unset, .unset] [(.ref a1382), (.ref b1370), (.ref b1370)]) s₁ (own_E m p0 p1 p2 p3 p4) := fun t k => pre1381 t (st1382 t k)
     obtain ⟨a1401, T1401, h1401, k1401, X1401, e1401, E1401, hS1401, hk1401, hZ1401, ho1401, hC1401, -, st1401⟩ := ldcOH (s := s) (vm0 := T1382.vm) X1382 hx hZ1382 ho1382 (own_w hw 38 rfl) (own_strW hw) e1382 hS1382 hk1382 hEL CR1382.1 (g := (mkF m 197 #[vI p0, vI p1, vI p2, vI p3, vI p4, vI v273, vI v279, vI v285, vI v291, vI v294, vI v297, vI v300, vI v303, vR b306, vR b1320, vR b1341, vR s_EMPTY, vR s_EMPTY, vR s_EMPTY, .unset, .unset] [(.ref a1382), (.ref b1370), (.ref b1370)])) rfl (hb hby at_197) (n := 4) (by decide) (by decide) (by decide) (by decide)
     have sf_b1320_1401 := CHr.safe hC1401 (Ef1388).lt sf_b1320_1382
     have CR1401 := CR1382.trans hC1401
     have Z1401 : n0 ≤ h1401.size := Nat.le_trans Z1382 E1401.1
     have K1401 : Keep h0 h1401 [] := K1382.ext E1401
     have Sf1402 : Sta Z h1401 "java/lang/String" "COMPACT_STRINGS" "Z" (.int gc1) := (Sf1383).ext E1401
     have Sf1403 : Sta Z h1401 "jdk/internal/util/Preconditions" "SIOOBE_FORMATTER" "Ljava/util/function/BiFunction;" gf3 := (Sf1384).ext E1401
     have Sf1404 : Sta Z h1401 "java/util/Optional" "EMPTY" "Ljava/util/Optional;" (.ref s_EMPTY) := (Sf1385).ext E1401
     have Ef1405 : Exa Z h1401 s_EMPTY "java/util/Optional" := (Ef1386).ext E1401
     have Ff1406 : Fld Z h1401 s_EMPTY "java/util/Optional" "value" "Ljava/lang/Object;" .null := (Ff1387).ext E1401
     have Ef1407 : Exa Z h1401 b1320 "java/lang/String" := (Ef1388).ext E1401
     have Ff1408 : Fld Z h1401 b1320 "java/lang/String" "coder" "B" (.int 0) := (Ff1389).ext E1401
     have Ff1409 : Fld Z h1401 b1320 "java/lang/String" "value" "[B" (.ref t1330) := (Ff1390).ext E1401
     have Vf1410 : Arv Z h1401 t1330 kt1330 .byte (3 : Int32) ((([(nar .char v294), (nar .char v297), (nar .char v300)] : List Int32).map (fun c => c.toInt8.toInt32)).map Value.int) (.int 0) := (Vf1391).ext E1401
     have Ef1411 : Exa Z h1401 b1370 own_GU := (Ef1392).ext E1401
     have Ff1412 : Fld Z h1401 b1370 own_GU "text" "Ljava/lang/String;" .null := (Ff1393).ext E1401
     have Ff1413 : Fld Z h1401 b1370 own_GU "host" "Ljava/lang/String;" .null := (Ff1394).ext E1401
     have Ff1414 : Fld Z h1401 b1370 own_GU "port" "Ljava/util/Optional;" .null := (Ff1395).ext E1401
     have Ff1415 : Fld Z h1401 b1370 own_GU "type" "Ljava/util/Optional;" .null := (Ff1396).ext E1401
     have Ff1416 : Fld Z h1401 b1370 own_GU "selector" "Ljava/lang/String;" .null := (Ff1397).ext E1401
     have Ff1417 : Fld Z h1401 b1370 own_GU "search" "Ljava/util/Optional;" .null := (Ff1398).ext E1401
     have Ff1418 : Fld Z h1401 b1370 own_GU "gopherPlus" "Ljava/util/Optional;" .null := (Ff1399).ext E1401
     have pre1419 : own_P p e below T1401 (mkF m 199 #[vI p0, vI p1, vI p2, vI p3, vI p4, vI v273, vI v279, vI v285, vI v291, vI v294, vI v297, vI v300, vI v303, vR b306, vR b1320, vR b1341, vR s_EMPTY, vR s_EMPTY, vR s_EMPTY, .unset, .unset] [(.ref a1401), (.ref a1382), (.ref b1370), (.ref b1370)]) s₁ (own_E m p0 p1 p2 p3 p4) := fun t k => pre1400 t (st1401 t k)
     have pre1420 : own_P p e below T1401 (mkF m 207 #[vI p0, vI p1, vI p2, vI p3, vI p4, vI v273, vI v279, vI v285, vI v291, vI v294, vI v297, vI v300, vI v303, vR b306, vR b1320, vR b1341, vR s_EMPTY, vR s_EMPTY, vR s_EMPTY, .unset, .unset] [(.ref s_EMPTY), (.ref b1341), (.ref s_EMPTY), (.ref s_EMPTY), (.ref a1401), (.ref a1382), (.ref b1370), (.ref b1370)]) s₁ (own_E m p0 p1 p2 p3 p4) := by
      intro t k
      refine pre1419 t ?_
      refine XS.aload X1401.here hx rfl (hb hby at_199) rfl rfl ?_
      refine XS.aload X1401.here hx rfl (hb hby at_201) rfl rfl ?_
      refine XS.aload X1401.here hx rfl (hb hby at_203) rfl rfl ?_
      refine XS.aload X1401.here hx rfl (hb hby at_205) rfl rfl ?_
      exact k
     obtain ⟨_, _, ⟨T1421, L1421, k1421, n1421⟩, -, X1421, ⟨Lc1421, hQ1421, l1421, y1421, z1421⟩, st1421⟩ := Jvm.LawKit.callS X1401 hx (y := (⟨"java/util/Optional", "empty", "()Ljava/util/Optional;"⟩ : MethodName)) ho1401 (mvT hZ1401 (own_w hw 27 rfl)) (mvT hZ1401 (own_w hw 28 rfl)) (mvT hZ1401 (own_w hw 29 rfl)) (mvT hZ1401 (own_w hw 30 rfl)) (by decide) (backOf (W := 8) (rm6 l Z ar0 hw [] s_EMPTY h1401 n0 Z1401 Sf1404) hZ1401 (own_w hw 30 rfl) (own_w hw 29 rfl) (by decide) (by decide)) (g := (mkF m 207 #[vI p0, vI p1, vI p2, vI p3, vI p4, vI v273, vI v279, vI v285, vI v291, vI v294, vI v297, vI v300, vI v303, vR b306, vR b1320, vR b1341, vR s_EMPTY, vR s_EMPTY, vR s_EMPTY, .unset, .unset] [(.ref s_EMPTY), (.ref b1341), (.ref s_EMPTY), (.ref s_EMPTY), (.ref a1401), (.ref a1382), (.ref b1370), (.ref b1370)])) rfl (by rw [hml]; rfl) (argsL := []) (rest := [(.ref s_EMPTY), (.ref b1341), (.ref s_EMPTY), (.ref s_EMPTY), (.ref a1401), (.ref a1382), (.ref b1370), (.ref b1370)]) (lenOf pd_9 rfl) rfl (by show 2 * 0 + _ ≤ _; exact Nat.le_of_eq rfl) (hb hby at_207) (fun _ _ => ⟨rfl, e1401, (by decide : 10 + 0 ≤ _), (by decide : 78 + 0 ≤ _)⟩)
     dsimp only [Pt.U, Pt.locs, Pt.cells, Pt.slots] at X1421 l1421 y1421 z1421 st1421 hQ1421
     subst l1421 y1421 z1421
     obtain ⟨rfl, N1421q, e1421⟩ := hQ1421
     have N1421 := Fr.app N1367 N1421q
     have pre1422 : own_P p e below T1421 (mkF m 210 #[vI p0, vI p1, vI p2, vI p3, vI p4, vI v273, vI v279, vI v285, vI v291, vI v294, vI v297, vI v300, vI v303, vR b306, vR b1320, vR b1341, vR s_EMPTY, vR s_EMPTY, vR s_EMPTY, .unset, .unset] [(.ref s_EMPTY), (.ref s_EMPTY), (.ref b1341), (.ref s_EMPTY), (.ref s_EMPTY), (.ref a1401), (.ref a1382), (.ref b1370), (.ref b1370)]) s₁ (own_E m p0 p1 p2 p3 p4) := fun t k => pre1420 t (st1421 t k)
     obtain ⟨_, _, ⟨T1423, L1423, k1423, n1423⟩, -, X1423r, hS1423r, hg1423r, ⟨Lc1423, hQ1423, l1423, y1423, z1423, hC1423⟩, st1423⟩ := X1421.specialBackS hx (y := (⟨own_GU, "<init>", "(Ljava/lang/String;Ljava/lang/String;Ljava/util/Optional;Ljava/util/Optional;Ljava/lang/String;Ljava/util/Optional;Ljava/util/Optional;)V"⟩ : MethodName)) rfl ho1401 (mvT hZ1401 (own_w hw 39 rfl)) (mvT hZ1401 (own_w hw 40 rfl)) (mvT hZ1401 (own_w hw 41 rfl)) (by decide) (backOfSH (W := 1) (rm7 l Z ar0 hw [] b1370 a1382 a1401 s_EMPTY s_EMPTY b1341 s_EMPTY s_EMPTY .null .null .null .null .null .null .null h1401 n0 Z1401 Ef1411 Ff1412 Ff1413 Ff1414 Ff1415 Ff1416 Ff1417 Ff1418 g_b1370) hZ1401 (own_w hw 41 rfl) (own_w hw 34 rfl) (by decide) (by decide) hEL CR1401.1) (g := (mkF m 210 #[vI p0, vI p1, vI p2, vI p3, vI p4, vI v273, vI v279, vI v285, vI v291, vI v294, vI v297, vI v300, vI v303, vR b306, vR b1320, vR b1341, vR s_EMPTY, vR s_EMPTY, vR s_EMPTY, .unset, .unset] [(.ref s_EMPTY), (.ref s_EMPTY), (.ref b1341), (.ref s_EMPTY), (.ref s_EMPTY), (.ref a1401), (.ref a1382), (.ref b1370), (.ref b1370)])) rfl (by rw [hml]; rfl) (Steps.refl _) (a := b1370) (argsL := [(.ref a1382), (.ref a1401), (.ref s_EMPTY), (.ref s_EMPTY), (.ref b1341), (.ref s_EMPTY), (.ref s_EMPTY)]) (rest := [(.ref b1370)]) (lenOf pd_11 rfl) rfl (by show 2 * 0 + _ ≤ _; exact Nat.le_of_eq rfl) (hb hby at_210) (fun _ _ => ⟨rfl, e1421, (by decide : 10 + 14 ≤ _), (by decide : 78 + 188 ≤ _)⟩)
     dsimp only [Pt.U, Pt.locs, Pt.cells, Pt.slots] at X1423r hS1423r hg1423r l1423 y1423 z1423 st1423 hQ1423 hC1423
     subst l1423 y1423 z1423
     obtain ⟨X1423, hS1423, hZ1423, ho1423⟩ := rebS (s := s) (vm0 := T1401.vm) (n1 := T1421.heap.size) hS1401 (by rw [e1421]; first | exact hk1401 | exact Nat.le_refl _) X1423r hS1423r hg1423r hZ1401 ho1401
     obtain ⟨h1423, e1423⟩ : ∃ h, T1423.heap = h := ⟨_, rfl⟩
     rw [e1423] at hQ1423
     obtain ⟨rfl, N1423q, K1423q, Q1423_0, Q1423_1, Q1423_2, Q1423_3, Q1423_4, Q1423_5, Q1423_6, Q1423_7⟩ := hQ1423
     have N1423 := Fr.app N1421 N1423q
     have Z1423 : n0 ≤ h1423.size := Nat.le_trans Z1401 K1423q.1
     have K1423 : Keep h0 h1423 [] := K1401.trans K1423q (fun x hx => by cases List.mem_singleton.mp hx; exact Or.inr sz_b1370)
     have Sf1424 : Sta Z h1423 "java/lang/String" "COMPACT_STRINGS" "Z" (.int gc1) := own_sta_keep Sf1402 K1423q (own_ns1 (own_ns_exa Ef1411))
     have Sf1425 : Sta Z h1423 "jdk/internal/util/Preconditions" "SIOOBE_FORMATTER" "Ljava/util/function/BiFunction;" gf3 := own_sta_keep Sf1403 K1423q (own_ns1 (own_ns_exa Ef1411))
     have Sf1426 : Sta Z h1423 "java/util/Optional" "EMPTY" "Ljava/util/Optional;" (.ref s_EMPTY) := own_sta_keep Sf1404 K1423q (own_ns1 (own_ns_exa Ef1411))
     have Ef1427 : Exa Z h1423 s_EMPTY "java/util/Optional" := (Ef1405).keep K1423q
     have Ff1428 : Fld Z h1423 s_EMPTY "java/util/Optional" "value" "Ljava/lang/Object;" .null := (Ff1406).keep K1423q (fun q => absurd (List.mem_singleton.mp q) ne_s_EMPTY_b1370)
     have Ef1429 : Exa Z h1423 b1320 "java/lang/String" := (Ef1407).keep K1423q
     have Ff1430 : Fld Z h1423 b1320 "java/lang/String" "coder" "B" (.int 0) := (Ff1408).keep K1423q (fun q => absurd (List.mem_singleton.mp q) ne_b1320_b1370)
     have Ff1431 : Fld Z h1423 b1320 "java/lang/String" "value" "[B" (.ref t1330) := (Ff1409).keep K1423q (fun q => absurd (List.mem_singleton.mp q) ne_b1320_b1370)
     have Vf1432 : Arv Z h1423 t1330 kt1330 .byte (3 : Int32) ((([(nar .char v294), (nar .char v297), (nar .char v300)] : List Int32).map (fun c => c.toInt8.toInt32)).map Value.int) (.int 0) := (Vf1410).keep K1423q (fun q => absurd (List.mem_singleton.mp q) ne_t1330_b1370)
     have Ef1433 : Exa Z h1423 b1370 own_GU := (Ef1411).keep K1423q
     rw [e1423] at hC1423
     have CR1423 := CR1401.trans hC1423
     have hk1423 : T1423.heap.size ≤ h1423.size := by rw [e1423]; exact Nat.le_refl _
     have pre1434 : own_P p e below T1423 (mkF m 213 #[vI p0, vI p1, vI p2, vI p3, vI p4, vI v273, vI v279, vI v285, vI v291, vI v294, vI v297, vI v300, vI v303, vR b306, vR b1320, vR b1341, vR s_EMPTY, vR s_EMPTY, vR s_EMPTY, .unset, .unset] [(.ref b1370)]) s₁ (own_E m p0 p1 p2 p3 p4) := fun t k => pre1422 t (st1423.trans k)
     have pre1435 : own_P p e below T1423 (mkF m 217 #[vI p0, vI p1, vI p2, vI p3, vI p4, vI v273, vI v279, vI v285, vI v291, vI v294, vI v297, vI v300, vI v303, vR b306, vR b1320, vR b1341, vR s_EMPTY, vR s_EMPTY, vR s_EMPTY, vR b1370, .unset] [(.ref b1370)]) s₁ (own_E m p0 p1 p2 p3 p4) := by
      intro t k
      refine pre1434 t ?_
      refine XS.astore X1423.here hx rfl (hb hby at_213) rfl rfl (l' := #[vI p0, vI p1, vI p2, vI p3, vI p4, vI v273, vI v279, vI v285, vI v291, vI v294, vI v297, vI v300, vI v303, vR b306, vR b1320, vR b1341, vR s_EMPTY, vR s_EMPTY, vR s_EMPTY, vR b1370, .unset]) rfl ?_
      refine XS.aload X1423.here hx rfl (hb hby at_215) rfl rfl ?_
      exact k
     obtain ⟨cq1436, kq1436, q1436a, q1436b, q1436c⟩ := isOf hZ1423 e1423 Q1423_0
     obtain ⟨_, _, ⟨T1436, L1436, k1436, n1436⟩, -, X1436r, hS1436r, hg1436r, ⟨Lc1436, hQ1436, l1436, y1436, z1436, hC1436⟩, st1436⟩ := X1423.virtualBackS hx (y := (⟨own_GU, "effectiveType", "()Ljava/lang/String;"⟩ : MethodName)) (z := (⟨own_GU, "effectiveType", "()Ljava/lang/String;"⟩ : MethodName)) ho1423 (mvT hZ1423 (own_w hw 73 rfl)) (mvT hZ1423 (own_w hw 74 rfl)) (notFace_of_selects (args := #[]) (mvT hZ1423 (own_w hw 76 rfl))) (mvT hZ1423 (own_w hw 76 rfl)) (mvT hZ1423 (own_w hw 75 rfl)) (by decide) (backOfSH (W := 0) (rm10_n l Z ar0 hw [] b1370 s_EMPTY h1423 n0 Z1423 Q1423_0 Q1423_4 Ef1427 Ff1428) hZ1423 (own_w hw 77 rfl) (own_w hw 34 rfl) (by decide) (by decide) hEL CR1423.1) q1436a q1436c (g := (mkF m 217 #[vI p0, vI p1, vI p2, vI p3, vI p4, vI v273, vI v279, vI v285, vI v291, vI v294, vI v297, vI v300, vI v303, vR b306, vR b1320, vR b1341, vR s_EMPTY, vR s_EMPTY, vR s_EMPTY, vR b1370, .unset] [(.ref b1370)])) rfl (by rw [hml]; rfl) (Steps.refl _) (argsL := []) (rest := []) (lenOf pd_12 rfl) rfl (by show 2 * 0 + _ ≤ _; exact Nat.le_of_eq rfl) (hb hby at_217) (fun _ _ => ⟨rfl, e1423, (by decide : 24 + 2 ≤ _), (by decide : 266 + 8 ≤ _)⟩)
     dsimp only [Pt.U, Pt.locs, Pt.cells, Pt.slots] at X1436r hS1436r hg1436r l1436 y1436 z1436 st1436 hQ1436 hC1436
     subst l1436 y1436 z1436
     obtain ⟨X1436, hS1436, hZ1436, ho1436⟩ := rebS (s := s) (vm0 := T1423.vm) (n1 := T1423.heap.size) hS1423 (by rw [e1423]; first | exact hk1423 | exact Nat.le_refl _) X1436r hS1436r hg1436r hZ1423 ho1423
     obtain ⟨h1436, e1436⟩ : ∃ h, T1436.heap = h := ⟨_, rfl⟩
     rw [e1436] at hQ1436
     obtain ⟨b1436, b1436b, kb1436b, rfl, N1436q, K1436q, Ob1436_0, Ob1436_1, Ob1436_2, Ob1436b_0⟩ := hQ1436
     have N1436 := Fr.app N1423 N1436q
     have Z1436 : n0 ≤ h1436.size := Nat.le_trans Z1423 K1436q.1
     have K1436 : Keep h0 h1436 [] := K1423.trans K1436q (fun x hx => absurd hx List.not_mem_nil)
     have Sf1437 : Sta Z h1436 "java/lang/String" "COMPACT_STRINGS" "Z" (.int gc1) := own_sta_keep0 Sf1424 K1436q
     have Sf1438 : Sta Z h1436 "jdk/internal/util/Preconditions" "SIOOBE_FORMATTER" "Ljava/util/function/BiFunction;" gf3 := own_sta_keep0 Sf1425 K1436q
     have Sf1439 : Sta Z h1436 "java/util/Optional" "EMPTY" "Ljava/util/Optional;" (.ref s_EMPTY) := own_sta_keep0 Sf1426 K1436q
     have Ef1440 : Exa Z h1436 s_EMPTY "java/util/Optional" := (Ef1427).keep K1436q
     have Ff1441 : Fld Z h1436 s_EMPTY "java/util/Optional" "value" "Ljava/lang/Object;" .null := (Ff1428).keep K1436q List.not_mem_nil
     have Ef1442 : Exa Z h1436 b1320 "java/lang/String" := (Ef1429).keep K1436q
     have Ff1443 : Fld Z h1436 b1320 "java/lang/String" "coder" "B" (.int 0) := (Ff1430).keep K1436q List.not_mem_nil
     have Ff1444 : Fld Z h1436 b1320 "java/lang/String" "value" "[B" (.ref t1330) := (Ff1431).keep K1436q List.not_mem_nil
     have Vf1445 : Arv Z h1436 t1330 kt1330 .byte (3 : Int32) ((([(nar .char v294), (nar .char v297), (nar .char v300)] : List Int32).map (fun c => c.toInt8.toInt32)).map Value.int) (.int 0) := (Vf1432).keep K1436q List.not_mem_nil
     have Ef1446 : Exa Z h1436 b1370 own_GU := (Q1423_0).keep K1436q
     have Ff1447 : Fld Z h1436 b1370 own_GU "text" "Ljava/lang/String;" (.ref a1382) := (Q1423_1).keep K1436q List.not_mem_nil
     have Ff1448 : Fld Z h1436 b1370 own_GU "host" "Ljava/lang/String;" (.ref a1401) := (Q1423_2).keep K1436q List.not_mem_nil
     have Ff1449 : Fld Z h1436 b1370 own_GU "port" "Ljava/util/Optional;" (.ref s_EMPTY) := (Q1423_3).keep K1436q List.not_mem_nil
     have Ff1450 : Fld Z h1436 b1370 own_GU "type" "Ljava/util/Optional;" (.ref s_EMPTY) := (Q1423_4).keep K1436q List.not_mem_nil
     have Ff1451 : Fld Z h1436 b1370 own_GU "selector" "Ljava/lang/String;" (.ref b1341) := (Q1423_5).keep K1436q List.not_mem_nil
     have Ff1452 : Fld Z h1436 b1370 own_GU "search" "Ljava/util/Optional;" (.ref s_EMPTY) := (Q1423_6).keep K1436q List.not_mem_nil
     have Ff1453 : Fld Z h1436 b1370 own_GU "gopherPlus" "Ljava/util/Optional;" (.ref s_EMPTY) := (Q1423_7).keep K1436q List.not_mem_nil
     rw [e1436] at hC1436
     have CR1436 := CR1423.trans hC1436
     have hk1436 : T1436.heap.size ≤ h1436.size := by rw [e1436]; exact Nat.le_refl _
     have pre1454 : own_P p e below T1436 (mkF m 220 #[vI p0, vI p1, vI p2, vI p3, vI p4, vI v273, vI v279, vI v285, vI v291, vI v294, vI v297, vI v300, vI v303, vR b306, vR b1320, vR b1341, vR s_EMPTY, vR s_EMPTY, vR s_EMPTY, vR b1370, .unset] [(.ref b1436)]) s₁ (own_E m p0 p1 p2 p3 p4) := fun t k => pre1435 t (st1436.trans k)
     have pre1455 : own_P p e below T1436 (mkF m 244 #[vI p0, vI p1, vI p2, vI p3, vI p4, vI v273, vI v279, vI v285, vI v291, vI v294, vI v297, vI v300, vI v303, vR b306, vR b1320, vR b1341, vR s_EMPTY, vR s_EMPTY, vR s_EMPTY, vR b1370, vR b1436] [(.ref b1436)]) s₁ (own_E m p0 p1 p2 p3 p4) := by
      intro t k
      refine pre1454 t ?_
      refine XS.astore X1436.here hx rfl (hb hby at_220) rfl rfl (l' := #[vI p0, vI p1, vI p2, vI p3, vI p4, vI v273, vI v279, vI v285, vI v291, vI v294, vI v297, vI v300, vI v303, vR b306, vR b1320, vR b1341, vR s_EMPTY, vR s_EMPTY, vR s_EMPTY, vR b1370, vR b1436]) rfl ?_
      refine XS.aload X1436.here hx rfl (hb hby at_222) rfl rfl ?_
      refine XS.ifnonnullYes X1436.here hx rfl (pc0 := 224) (pc' := 229) rfl (hb hby at_224) rfl (by decide) (by decide) ?_
      refine XS.iload X1436.here hx rfl (hb hby at_229) rfl ?_
      refine XS.ifYes X1436.here hx rfl (pc0 := 231) (pc' := 242) rfl (hb hby at_231) rfl ((if0 _ _).trans (teq hc139_1355).1) (by decide) (by decide) ?_
      refine XS.aload X1436.here hx rfl (hb hby at_242) rfl rfl ?_
      exact k
     obtain ⟨cq1456, kq1456, q1456a, q1456b, q1456c⟩ := isOf hZ1436 e1436 Ob1436_0
     obtain ⟨_, _, ⟨T1456, L1456, k1456, n1456⟩, -, X1456, ⟨Lc1456, hQ1456, l1456, y1456, z1456⟩, st1456⟩ := X1436.virtualBack hx (y := (⟨"java/lang/String", "length", "()I"⟩ : MethodName)) (z := (⟨"java/lang/String", "length", "()I"⟩ : MethodName)) ho1436 (mvT hZ1436 (own_w hw 87 rfl)) (mvT hZ1436 (own_w hw 88 rfl)) (notFace_of_selects (args := #[]) (mvT hZ1436 (own_w hw 90 rfl))) (mvT hZ1436 (own_w hw 90 rfl)) (mvT hZ1436 (own_w hw 89 rfl)) (by decide) (StrChars.Road.lenW (W := 0) hZ1436 (own_wordsLen hw) (kI := 4) (own_w hw 11 rfl) Ob1436_0 Ob1436_2 Ob1436_1 Ob1436b_0 (own_hcdG (cs := [49]) (by decide)) (own_up [49] (by decide)) Sf1437 P5 (Nat.le_of_ble_eq_true rfl) (by decide) (by decide)) q1456a q1456c (g := (mkF m 244 #[vI p0, vI p1, vI p2, vI p3, vI p4, vI v273, vI v279, vI v285, vI v291, vI v294, vI v297, vI v300, vI v303, vR b306, vR b1320, vR b1341, vR s_EMPTY, vR s_EMPTY, vR s_EMPTY, vR b1370, vR b1436] [(.ref b1436)])) rfl (by rw [hml]; rfl) (Steps.refl _) (argsL := []) (rest := []) (lenOf pd_13 rfl) rfl (by show 2 * 0 + _ ≤ _; exact Nat.le_of_eq rfl) (hb hby at_244) (fun _ _ => ⟨rfl, e1436, (by decide : 26 + 0 ≤ _), (by decide : 274 + 0 ≤ _)⟩)
     dsimp only [Pt.U, Pt.locs, Pt.cells, Pt.slots] at X1456 l1456 y1456 z1456 st1456 hQ1456
     subst l1456 y1456 z1456
     obtain ⟨rfl, rfl, e1456⟩ := hQ1456
     try rw [List.append_nil] at X1456
     have pre1457 : own_P p e below T1456 (mkF m 247 #[vI p0, vI p1, vI p2, vI p3, vI p4, vI v273, vI v279, vI v285, vI v291, vI v294, vI v297, vI v300, vI v303, vR b306, vR b1320, vR b1341, vR s_EMPTY, vR s_EMPTY, vR s_EMPTY, vR b1370, vR b1436] [(.int (Int32.ofNat ([49] : List Int32).length))]) s₁ (own_E m p0 p1 p2 p3 p4) := fun t k => pre1455 t (st1456.trans k)
     have pre1458 : own_P p e below T1456 (mkF m 248 #[vI p0, vI p1, vI p2, vI p3, vI p4, vI v273, vI v279, vI v285, vI v291, vI v294, vI v297, vI v300, vI v303, vR b306, vR b1320, vR b1341, vR s_EMPTY, vR s_EMPTY, vR s_EMPTY, vR b1370, vR b1436] [(.int 1), (.int (Int32.ofNat ([49] : List Int32).length))]) s₁ (own_E m p0 p1 p2 p3 p4) := by
      intro t k
      refine pre1457 t ?_
      refine XS.iconst X1456.here hx rfl (hb hby at_247) ?_
      exact k
     have hk1459 : (Int32.ofNat ([49] : List Int32).length) = (1 : Int32) := (by decide)
     have pre1460 : own_P p e below T1456 (mkF m 254 #[vI p0, vI p1, vI p2, vI p3, vI p4, vI v273, vI v279, vI v285, vI v291, vI v294, vI v297, vI v300, vI v303, vR b306, vR b1320, vR b1341, vR s_EMPTY, vR s_EMPTY, vR s_EMPTY, vR b1370, vR b1436] [(.int 0), (.ref b1436)]) s₁ (own_E m p0 p1 p2 p3 p4) := by
      intro t k
      refine pre1458 t ?_
      refine XS.icmpNo X1456.here hx rfl (hb hby at_248) rfl (teq hk1459).2 ?_
      refine XS.aload X1456.here hx rfl (hb hby at_251) rfl rfl ?_
      refine XS.iconst X1456.here hx rfl (hb hby at_253) ?_
      exact k
     obtain ⟨cq1461, kq1461, q1461a, q1461b, q1461c⟩ := isOf hZ1436 e1456 Ob1436_0
     obtain ⟨_, _, ⟨T1461, L1461, k1461, n1461⟩, -, X1461, ⟨Lc1461, hQ1461, l1461, y1461, z1461⟩, st1461⟩ := X1456.virtualBack hx (y := (⟨"java/lang/String", "charAt", "(I)C"⟩ : MethodName)) (z := (⟨"java/lang/String", "charAt", "(I)C"⟩ : MethodName)) ho1436 (mvT hZ1436 (own_w hw 97 rfl)) (mvT hZ1436 (own_w hw 98 rfl)) (notFace_of_selects (args := #[]) (mvT hZ1436 (own_w hw 100 rfl))) (mvT hZ1436 (own_w hw 100 rfl)) (mvT hZ1436 (own_w hw 99 rfl)) (by decide) (StrChars.Road.chN (W := 0) hZ1436 (own_wordsChN hw) (kI := 4) (own_w hw 11 rfl) Ob1436_0 Ob1436_2 Ob1436_1 Ob1436b_0 (own_hcdG (cs := [49]) (by decide)) (own_up [49] (by decide)) Sf1437 P5 Sf1438 rG3 (Nat.le_of_ble_eq_true rfl) (i := 0) (by decide) (j := (0 : Int32)) rfl (by decide) (by decide)) q1461a q1461c (g := (mkF m 254 #[vI p0, vI p1, vI p2, vI p3, vI p4, vI v273, vI v279, vI v285, vI v291, vI v294, vI v297, vI v300, vI v303, vR b306, vR b1320, vR b1341, vR s_EMPTY, vR s_EMPTY, vR s_EMPTY, vR b1370, vR b1436] [(.int 0), (.ref b1436)])) rfl (by rw [hml]; rfl) (Steps.refl _) (argsL := [(.int 0)]) (rest := []) (lenOf pd_14 rfl) rfl (by show 2 * 0 + _ ≤ _; exact Nat.le_of_eq rfl) (hb hby at_254) (fun _ _ => ⟨rfl, e1456, (by decide : 26 + 0 ≤ _), (by decide : 274 + 0 ≤ _)⟩)
     dsimp only [Pt.U, Pt.locs, Pt.cells, Pt.slots] at X1461 l1461 y1461 z1461 st1461 hQ1461
     subst l1461 y1461 z1461
     obtain ⟨rfl, rfl, e1461⟩ := hQ1461
     try rw [List.append_nil] at X1461
     have pre1462 : own_P p e below T1461 (mkF m 257 #[vI p0, vI p1, vI p2, vI p3, vI p4, vI v273, vI v279, vI v285, vI v291, vI v294, vI v297, vI v300, vI v303, vR b306, vR b1320, vR b1341, vR s_EMPTY, vR s_EMPTY, vR s_EMPTY, vR b1370, vR b1436] [(.int (([49] : List Int32).getD 0 0))]) s₁ (own_E m p0 p1 p2 p3 p4) := fun t k => pre1460 t (st1461.trans k)
     have pre1463 : own_P p e below T1461 (mkF m 259 #[vI p0, vI p1, vI p2, vI p3, vI p4, vI v273, vI v279, vI v285, vI v291, vI v294, vI v297, vI v300, vI v303, vR b306, vR b1320, vR b1341, vR s_EMPTY, vR s_EMPTY, vR s_EMPTY, vR b1370, vR b1436] [(.int 49), (.int (([49] : List Int32).getD 0 0))]) s₁ (own_E m p0 p1 p2 p3 p4) := by
      intro t k
      refine pre1462 t ?_
      refine XS.bipush X1461.here hx rfl (hb hby at_257) ?_
      exact k
     have hk1464 : (([49] : List Int32).getD 0 0) = (49 : Int32) := (by decide)
     obtain ⟨fs, hr, hrun, hended, hRW⟩ := X1461.leaveW (s := s) (vm₁ := T1436.vm) hS1436 (by rw [e1461]; first | exact hk1436 | exact Nat.le_refl _) (v := some (.int 1)) (fun h => by rw [Bd.returns] at h; cases h)
     refine ⟨_, _, pre1463 _ ?_, hrun, hended, _, _, rfl, ?_, hRW.1, hRW.2.1, hRW.2.2.1, hRW.2.2.2.mono (by decide) (by decide)⟩
     ·
      refine XS.icmpNo X1461.here hx rfl (hb hby at_259) rfl (teq hk1464).2 ?_
      refine XS.iconst X1461.here hx rfl (hb hby at_262) ?_
      refine XS.goto X1461.here hx rfl (pc0 := 263) (pc' := 267) rfl (hb hby at_263) (by decide) (by decide) ?_
      exact retN X1461 hx (t := .boolean) Bd.returns (by simp) (hb hby at_267) hr
     ·
      show Q0 Z p0 p1 p2 p3 p4 gc1 gf3 s_EMPTY h0 n0 _ T1461.heap _
      rw [e1461]
      exact ⟨rfl, N1436⟩
    ·
     have pre1465 : ∀ t, Steps p.tables e below (T1362.setTop (mkF m 180 #[vI p0, vI p1, vI p2, vI p3, vI p4, vI v273, vI v279, vI v285, vI v291, vI v294, vI v297, vI v300, vI v303, vR b306, vR b1320, vR b1341, vR s_EMPTY, vR s_EMPTY, .unset, .unset, .unset] [(.ref b1341)])) t → Steps p.tables e below (s₁.setTop (own_E m p0 p1 p2 p3 p4)) t := by
      intro t k
      refine pre1364 t ?_
      refine XS.ifNo X1362.here hx rfl (hb hby at_175) rfl ((if0 _ _).trans (feq hc175_1365).1) ?_
      refine XS.aload X1362.here hx rfl (hb hby at_178) rfl rfl ?_
      exact k
     obtain ⟨_, _, ⟨T1466, L1466, k1466, n1466⟩, -, X1466, ⟨Lc1466, hQ1466, l1466, y1466, z1466⟩, st1466⟩ := Jvm.LawKit.callS X1362 hx (y := (⟨"java/util/Optional", "of", "(Ljava/lang/Object;)Ljava/util/Optional;"⟩ : MethodName)) hown (mvT hZ (own_w hw 135 rfl)) (mvT hZ (own_w hw 136 rfl)) (mvT hZ (own_w hw 29 rfl)) (mvT hZ (own_w hw 137 rfl)) (by decide) (backOf (W := 0) (rm24 l Z ar0 hw [] b1341 h1341 n0 Z1341) hZ (own_w hw 137 rfl) (own_w hw 29 rfl) (by decide) (by decide)) (g := (mkF m 180 #[vI p0, vI p1, vI p2, vI p3, vI p4, vI v273, vI v279, vI v285, vI v291, vI v294, vI v297, vI v300, vI v303, vR b306, vR b1320, vR b1341, vR s_EMPTY, vR s_EMPTY, .unset, .unset, .unset] [(.ref b1341)])) rfl (by rw [hml]; rfl) (argsL := [(.ref b1341)]) (rest := []) (lenOf pd_10 rfl) rfl (by show 2 * 0 + _ ≤ _; exact Nat.le_of_eq rfl) (hb hby at_180) (fun _ _ => ⟨rfl, e1362, (by decide : 5 + 1 ≤ _), (by decide : 15 + 1 ≤ _)⟩)
     dsimp only [Pt.U, Pt.locs, Pt.cells, Pt.slots] at X1466 l1466 y1466 z1466 st1466 hQ1466
     subst l1466 y1466 z1466
     obtain ⟨h1466, e1466⟩ : ∃ h, T1466.heap = h := ⟨_, rfl⟩
     rw [e1466] at hQ1466
     obtain ⟨b1466, rfl, N1466q, K1466q, y_b1466, Ob1466_0, Ob1466_1⟩ := hQ1466
     have N1466 := Fr.app N1362 N1466q
     have ne_s_EMPTY_b1466 : s_EMPTY ≠ b1466 := Nat.ne_of_lt (Nat.lt_of_lt_of_le (Ef1345).lt y_b1466)
     have ne_b1320_b1466 : b1320 ≠ b1466 := Nat.ne_of_lt (Nat.lt_of_lt_of_le (Ef1349).lt y_b1466)
     have ne_t1330_b1466 : t1330 ≠ b1466 := Nat.ne_of_lt (Nat.lt_of_lt_of_le (Vf1352).lt y_b1466)
     have g_b1466 : n0 ≤ b1466 := Nat.le_trans Z1341 y_b1466
     have sz_b1466 : h0.size ≤ b1466 := Nat.le_trans K1341.1 y_b1466
     have Z1466 : n0 ≤ h1466.size := Nat.le_trans Z1341 K1466q.1
     have hk1466 := Nat.le_trans hk1341 K1466q.1
     have K1466 : Keep h0 h1466 [] := K1341.trans K1466q (fun x hx => absurd hx List.not_mem_nil)
     have sf_b1320_1466 := Safe.keep K1466q sf0 CR1341.1 sf_b1320_1341
     have CR1466 := CR1341.trans (CHr.keep K1466q sf0 CR1341.1)
     have Sf1467 : Sta Z h1466 "java/lang/String" "COMPACT_STRINGS" "Z" (.int gc1) := own_sta_keep0 Sf1342 K1466q
     have Sf1468 : Sta Z h1466 "jdk/internal/util/Preconditions" "SIOOBE_FORMATTER" "Ljava/util/function/BiFunction;" gf3 := own_sta_keep0 Sf1343 K1466q
     have Sf1469 : Sta Z h1466 "java/util/Optional" "EMPTY" "Ljava/util/Optional;" (.ref s_EMPTY) := own_sta_keep0 Sf1344 K1466q
     have Ef1470 : Exa Z h1466 s_EMPTY "java/util/Optional" := (Ef1345).keep K1466q
     have Ff1471 : Fld Z h1466 s_EMPTY "java/util/Optional" "value" "Ljava/lang/Object;" .null := (Ff1346).keep K1466q List.not_mem_nil
     have Ef1472 : Exa Z h1466 b1320 "java/lang/String" := (Ef1349).keep K1466q
     have Ff1473 : Fld Z h1466 b1320 "java/lang/String" "coder" "B" (.int 0) := (Ff1350).keep K1466q List.not_mem_nil
     have Ff1474 : Fld Z h1466 b1320 "java/lang/String" "value" "[B" (.ref t1330) := (Ff1351).keep K1466q List.not_mem_nil
     have Vf1475 : Arv Z h1466 t1330 kt1330 .byte (3 : Int32) ((([(nar .char v294), (nar .char v297), (nar .char v300)] : List Int32).map (fun c => c.toInt8.toInt32)).map Value.int) (.int 0) := (Vf1352).keep K1466q List.not_mem_nil
     have pre1476 : own_P p e below T1466 (mkF m 183 #[vI p0, vI p1, vI p2, vI p3, vI p4, vI v273, vI v279, vI v285, vI v291, vI v294, vI v297, vI v300, vI v303, vR b306, vR b1320, vR b1341, vR s_EMPTY, vR s_EMPTY, .unset, .unset, .unset] [(.ref b1466)]) s₁ (own_E m p0 p1 p2 p3 p4) := fun t k => pre1465 t (st1466 t k)
     have pre1477 : own_P p e below T1466 (mkF m 191 #[vI p0, vI p1, vI p2, vI p3, vI p4, vI v273, vI v279, vI v285, vI v291, vI v294, vI v297, vI v300, vI v303, vR b306, vR b1320, vR b1341, vR s_EMPTY, vR s_EMPTY, vR b1466, .unset, .unset] []) s₁ (own_E m p0 p1 p2 p3 p4) := by
      intro t k
      refine pre1476 t ?_
      refine XS.goto X1466.here hx rfl (pc0 := 183) (pc' := 189) rfl (hb hby at_183) (by decide) (by decide) ?_
      refine XS.astore X1466.here hx rfl (hb hby at_189) rfl rfl (l' := #[vI p0, vI p1, vI p2, vI p3, vI p4, vI v273, vI v279, vI v285, vI v291, vI v294, vI v297, vI v300, vI v303, vR b306, vR b1320, vR b1341, vR s_EMPTY, vR s_EMPTY, vR b1466, .unset, .unset]) rfl ?_
      exact k
     obtain ⟨T1478, h1478, X1478, e1478, E1478, A1478, D1478, -, st1478⟩ := newO X1466 hx hZ hown (own_w hw 32 rfl) (own_w hw 33 rfl) (own_w hw 34 rfl) e1466 (g := (mkF m 191 #[vI p0, vI p1, vI p2, vI p3, vI p4, vI v273, vI v279, vI v285, vI v291, vI v294, vI v297, vI v300, vI v303, vR b306, vR b1320, vR b1341, vR s_EMPTY, vR s_EMPTY, vR b1466, .unset, .unset] [])) rfl (hb hby at_191) (by decide) (by decide)
     obtain ⟨b1478, g1478⟩ : ∃ z, z = h1466.size := ⟨_, rfl⟩
     rw [← g1478] at A1478 D1478 st1478
     have ne_s_EMPTY_b1478 : s_EMPTY ≠ b1478 := Nat.ne_of_lt (Nat.lt_of_lt_of_le (Ef1470).lt (Nat.le_of_eq g1478.symm))
     have ne_b1320_b1478 : b1320 ≠ b1478 := Nat.ne_of_lt (Nat.lt_of_lt_of_le (Ef1472).lt (Nat.le_of_eq g1478.symm))
     have ne_t1330_b1478 : t1330 ≠ b1478 := Nat.ne_of_lt (Nat.lt_of_lt_of_le (Vf1475).lt (Nat.le_of_eq g1478.symm))
     have g_b1478 : n0 ≤ b1478 := Nat.le_trans Z1466 (Nat.le_of_eq g1478.symm)
     have sz_b1478 : h0.size ≤ b1478 := Nat.le_trans K1466.1 (Nat.le_of_eq g1478.symm)
     have Z1478 : n0 ≤ h1478.size := Nat.le_trans Z1466 E1478.1
     have K1478 : Keep h0 h1478 [] := K1466.ext E1478
     have hk1478 := Nat.le_trans hk1466 E1478.1
     have sf_b1320_1478 := Safe.ext E1478 CR1466.1 sf_b1320_1466
     have CR1478 := CR1466.trans (CHr.ext E1478 CR1466.1)
     have Sf1479 : Sta Z h1478 "java/lang/String" "COMPACT_STRINGS" "Z" (.int gc1) := (Sf1467).ext E1478
     have Sf1480 : Sta Z h1478 "jdk/internal/util/Preconditions" "SIOOBE_FORMATTER" "Ljava/util/function/BiFunction;" gf3 := (Sf1468).ext E1478
     have Sf1481 : Sta Z h1478 "java/util/Optional" "EMPTY" "Ljava/util/Optional;" (.ref s_EMPTY) := (Sf1469).ext E1478
     have Ef1482 : Exa Z h1478 s_EMPTY "java/util/Optional" := (Ef1470).ext E1478
     have Ff1483 : Fld Z h1478 s_EMPTY "java/util/Optional" "value" "Ljava/lang/Object;" .null := (Ff1471).ext E1478
     have Ef1484 : Exa Z h1478 b1320 "java/lang/String" := (Ef1472).ext E1478
     have Ff1485 : Fld Z h1478 b1320 "java/lang/String" "coder" "B" (.int 0) := (Ff1473).ext E1478
     have Ff1486 : Fld Z h1478 b1320 "java/lang/String" "value" "[B" (.ref t1330) := (Ff1474).ext E1478
     have Vf1487 : Arv Z h1478 t1330 kt1330 .byte (3 : Int32) ((([(nar .char v294), (nar .char v297), (nar .char v300)] : List Int32).map (fun c => c.toInt8.toInt32)).map Value.int) (.int 0) := (Vf1475).ext E1478
     have Ftext_b1478 : Fld Z h1478 b1478 own_GU "text" "Ljava/lang/String;" .null := D1478 (Or.inr (own_w hw 60 rfl)) (ty := (.object "java/lang/String")) (by decide)
     have Fhost_b1478 : Fld Z h1478 b1478 own_GU "host" "Ljava/lang/String;" .null := D1478 (Or.inr (own_w hw 62 rfl)) (ty := (.object "java/lang/String")) (by decide)
     have Fport_b1478 : Fld Z h1478 b1478 own_GU "port" "Ljava/util/Optional;" .null := D1478 (Or.inr (own_w hw 64 rfl)) (ty := (.object "java/util/Optional")) (by decide)
     have Ftype_b1478 : Fld Z h1478 b1478 own_GU "type" "Ljava/util/Optional;" .null := D1478 (Or.inr (own_w hw 66 rfl)) (ty := (.object "java/util/Optional")) (by decide)
     have Fselector_b1478 : Fld Z h1478 b1478 own_GU "selector" "Ljava/lang/String;" .null := D1478 (Or.inr (own_w hw 68 rfl)) (ty := (.object "java/lang/String")) (by decide)
     have Fsearch_b1478 : Fld Z h1478 b1478 own_GU "search" "Ljava/util/Optional;" .null := D1478 (Or.inr (own_w hw 70 rfl)) (ty := (.object "java/util/Optional")) (by decide)
     have FgopherPlus_b1478 : Fld Z h1478 b1478 own_GU "gopherPlus" "Ljava/util/Optional;" .null := D1478 (Or.inr (own_w hw 72 rfl)) (ty := (.object "java/util/Optional")) (by decide)
     have pre1488 : own_P p e below T1478 (mkF m 194 #[vI p0, vI p1, vI p2, vI p3, vI p4, vI v273, vI v279, vI v285, vI v291, vI v294, vI v297, vI v300, vI v303, vR b306, vR b1320, vR b1341, vR s_EMPTY, vR s_EMPTY, vR b1466, .unset, .unset] [(.ref b1478)]) s₁ (own_E m p0 p1 p2 p3 p4) := fun t k => pre1477 t (st1478 t k)
     have pre1489 : own_P p e below T1478 (mkF m 195 #[vI p0, vI p1, vI p2, vI p3, vI p4, vI v273, vI v279, vI v285, vI v291, vI v294, vI v297, vI v300, vI v303, vR b306, vR b1320, vR b1341, vR s_EMPTY, vR s_EMPTY, vR b1466, .unset, .unset] [(.ref b1478), (.ref b1478)]) s₁ (own_E m p0 p1 p2 p3 p4) := by
      intro t k
      refine pre1488 t ?_
      refine XS.dup X1478.here hx rfl (hb hby at_194) rfl rfl ?_
      exact k
     obtain ⟨a1490, T1490, h1490, k1490, X1490, e1490, E1490, hS1490, hk1490, hZ1490, ho1490, hC1490, -, st1490⟩ := ldcOH (s := s) (vm0 := s.vm) X1478 hx hZ hown (own_w hw 35 rfl) (own_strW hw) e1478 hS0 hk1478 hEL CR1478.1 (g := (mkF m 195 #[vI p0, vI p1, vI p2, vI p3, vI p4, vI v273, vI v279, vI v285, vI v291, vI v294, vI v297, vI v300, vI v303, vR b306, vR b1320, vR b1341, vR s_EMPTY, vR s_EMPTY, vR b1466, .unset, .unset] [(.ref b1478), (.ref b1478)])) rfl (hb hby at_195) (n := 44) (by decide) (by decide) (by decide) (by decide)
     have sf_b1320_1490 := CHr.safe hC1490 (Ef1484).lt sf_b1320_1478
     have CR1490 := CR1478.trans hC1490
     have Z1490 : n0 ≤ h1490.size := Nat.le_trans Z1478 E1490.1
     have K1490 : Keep h0 h1490 [] := K1478.ext E1490
     have Sf1491 : Sta Z h1490 "java/lang/String" "COMPACT_STRINGS" "Z" (.int gc1) := (Sf1479).ext E1490
     have Sf1492 : Sta Z h1490 "jdk/internal/util/Preconditions" "SIOOBE_FORMATTER" "Ljava/util/function/BiFunction;" gf3 := (Sf1480).ext E1490
     have Sf1493 : Sta Z h1490 "java/util/Optional" "EMPTY" "Ljava/util/Optional;" (.ref s_EMPTY) := (Sf1481).ext E1490
     have Ef1494 : Exa Z h1490 s_EMPTY "java/util/Optional" := (Ef1482).ext E1490
     have Ff1495 : Fld Z h1490 s_EMPTY "java/util/Optional" "value" "Ljava/lang/Object;" .null := (Ff1483).ext E1490
     have Ef1496 : Exa Z h1490 b1320 "java/lang/String" := (Ef1484).ext E1490
     have Ff1497 : Fld Z h1490 b1320 "java/lang/String" "coder" "B" (.int 0) := (Ff1485).ext E1490
     have Ff1498 : Fld Z h1490 b1320 "java/lang/String" "value" "[B" (.ref t1330) := (Ff1486).ext E1490
     have Vf1499 : Arv Z h1490 t1330 kt1330 .byte (3 : Int32) ((([(nar .char v294), (nar .char v297), (nar .char v300)] : List Int32).map (fun c => c.toInt8.toInt32)).map Value.int) (.int 0) := (Vf1487).ext E1490
     have Ef1500 : Exa Z h1490 b1478 own_GU := (A1478).ext E1490
     have Ff1501 : Fld Z h1490 b1478 own_GU "text" "Ljava/lang/String;" .null := (Ftext_b1478).ext E1490
     have Ff1502 : Fld Z h1490 b1478 own_GU "host" "Ljava/lang/String;" .null := (Fhost_b1478).ext E1490
     have Ff1503 : Fld Z h1490 b1478 own_GU "port" "Ljava/util/Optional;" .null := (Fport_b1478).ext E1490
     have Ff1504 : Fld Z h1490 b1478 own_GU "type" "Ljava/util/Optional;" .null := (Ftype_b1478).ext E1490
     have Ff1505 : Fld Z h1490 b1478 own_GU "selector" "Ljava/lang/String;" .null := (Fselector_b1478).ext E1490
     have Ff1506 : Fld Z h1490 b1478 own_GU "search" "Ljava/util/Optional;" .null := (Fsearch_b1478).ext E1490
     have Ff1507 : Fld Z h1490 b1478 own_GU "gopherPlus" "Ljava/util/Optional;" .null := (FgopherPlus_b1478).ext E1490
     have pre1508 : own_P p e below T1490 (mkF m 197 #[vI p0, vI p1, vI p2, vI p3, vI p4, vI v273, vI v279, vI v285, vI v291, vI v294, vI v297, vI v300, vI v303, vR b306, vR b1320, vR b1341, vR s_EMPTY, vR s_EMPTY, vR b1466, .unset, .unset] [(.ref a1490), (.ref b1478), (.ref b1478)]) s₁ (own_E m p0 p1 p2 p3 p4) := fun t k => pre1489 t (st1490 t k)
     obtain ⟨a1509, T1509, h1509, k1509, X1509, e1509, E1509, hS1509, hk1509, hZ1509, ho1509, hC1509, -, st1509⟩ := ldcOH (s := s) (vm0 := T1490.vm) X1490 hx hZ1490 ho1490 (own_w hw 38 rfl) (own_strW hw) e1490 hS1490 hk1490 hEL CR1490.1 (g := (mkF m 197 #[vI p0, vI p1, vI p2, vI p3, vI p4, vI v273, vI v279, vI v285, vI v291, vI v294, vI v297, vI v300, vI v303, vR b306, vR b1320, vR b1341, vR s_EMPTY, vR s_EMPTY, vR b1466, .unset, .unset] [(.ref a1490), (.ref b1478), (.ref b1478)])) rfl (hb hby at_197) (n := 4) (by decide) (by decide) (by decide) (by decide)
     have sf_b1320_1509 := CHr.safe hC1509 (Ef1496).lt sf_b1320_1490
     have CR1509 := CR1490.trans hC1509
     have Z1509 : n0 ≤ h1509.size := Nat.le_trans Z1490 E1509.1
     have K1509 : Keep h0 h1509 [] := K1490.ext E1509
     have Sf1510 : Sta Z h1509 "java/lang/String" "COMPACT_STRINGS" "Z" (.int gc1) := (Sf1491).ext E1509
     have Sf1511 : Sta Z h1509 "jdk/internal/util/Preconditions" "SIOOBE_FORMATTER" "Ljava/util/function/BiFunction;" gf3 := (Sf1492).ext E1509
     have Sf1512 : Sta Z h1509 "java/util/Optional" "EMPTY" "Ljava/util/Optional;" (.ref s_EMPTY) := (Sf1493).ext E1509
     have Ef1513 : Exa Z h1509 s_EMPTY "java/util/Optional" := (Ef1494).ext E1509
     have Ff1514 : Fld Z h1509 s_EMPTY "java/util/Optional" "value" "Ljava/lang/Object;" .null := (Ff1495).ext E1509
     have Ef1515 : Exa Z h1509 b1320 "java/lang/String" := (Ef1496).ext E1509
     have Ff1516 : Fld Z h1509 b1320 "java/lang/String" "coder" "B" (.int 0) := (Ff1497).ext E1509
     have Ff1517 : Fld Z h1509 b1320 "java/lang/String" "value" "[B" (.ref t1330) := (Ff1498).ext E1509
     have Vf1518 : Arv Z h1509 t1330 kt1330 .byte (3 : Int32) ((([(nar .char v294), (nar .char v297), (nar .char v300)] : List Int32).map (fun c => c.toInt8.toInt32)).map Value.int) (.int 0) := (Vf1499).ext E1509
     have Ef1519 : Exa Z h1509 b1478 own_GU := (Ef1500).ext E1509
     have Ff1520 : Fld Z h1509 b1478 own_GU "text" "Ljava/lang/String;" .null := (Ff1501).ext E1509
     have Ff1521 : Fld Z h1509 b1478 own_GU "host" "Ljava/lang/String;" .null := (Ff1502).ext E1509
     have Ff1522 : Fld Z h1509 b1478 own_GU "port" "Ljava/util/Optional;" .null := (Ff1503).ext E1509
     have Ff1523 : Fld Z h1509 b1478 own_GU "type" "Ljava/util/Optional;" .null := (Ff1504).ext E1509
     have Ff1524 : Fld Z h1509 b1478 own_GU "selector" "Ljava/lang/String;" .null := (Ff1505).ext E1509
     have Ff1525 : Fld Z h1509 b1478 own_GU "search" "Ljava/util/Optional;" .null := (Ff1506).ext E1509
     have Ff1526 : Fld Z h1509 b1478 own_GU "gopherPlus" "Ljava/util/Optional;" .null := (Ff1507).ext E1509
     have pre1527 : own_P p e below T1509 (mkF m 199 #[vI p0, vI p1, vI p2, vI p3, vI p4, vI v273, vI v279, vI v285, vI v291, vI v294, vI v297, vI v300, vI v303, vR b306, vR b1320, vR b1341, vR s_EMPTY, vR s_EMPTY, vR b1466, .unset, .unset] [(.ref a1509), (.ref a1490), (.ref b1478), (.ref b1478)]) s₁ (own_E m p0 p1 p2 p3 p4) := fun t k => pre1508 t (st1509 t k)
     have pre1528 : own_P p e below T1509 (mkF m 207 #[vI p0, vI p1, vI p2, vI p3, vI p4, vI v273, vI v279, vI v285, vI v291, vI v294, vI v297, vI v300, vI v303, vR b306, vR b1320, vR b1341, vR s_EMPTY, vR s_EMPTY, vR b1466, .unset, .unset] [(.ref s_EMPTY), (.ref b1341), (.ref s_EMPTY), (.ref b1466), (.ref a1509), (.ref a1490), (.ref b1478), (.ref b1478)]) s₁ (own_E m p0 p1 p2 p3 p4) := by
      intro t k
      refine pre1527 t ?_
      refine XS.aload X1509.here hx rfl (hb hby at_199) rfl rfl ?_
      refine XS.aload X1509.here hx rfl (hb hby at_201) rfl rfl ?_
      refine XS.aload X1509.here hx rfl (hb hby at_203) rfl rfl ?_
      refine XS.aload X1509.here hx rfl (hb hby at_205) rfl rfl ?_
      exact k
     obtain ⟨_, _, ⟨T1529, L1529, k1529, n1529⟩, -, X1529, ⟨Lc1529, hQ1529, l1529, y1529, z1529⟩, st1529⟩ := Jvm.LawKit.callS X1509 hx (y := (⟨"java/util/Optional", "empty", "()Ljava/util/Optional;"⟩ : MethodName)) ho1509 (mvT hZ1509 (own_w hw 27 rfl)) (mvT hZ1509 (own_w hw 28 rfl)) (mvT hZ1509 (own_w hw 29 rfl)) (mvT hZ1509 (own_w hw 30 rfl)) (by decide) (backOf (W := 8) (rm6 l Z ar0 hw [] s_EMPTY h1509 n0 Z1509 Sf1512) hZ1509 (own_w hw 30 rfl) (own_w hw 29 rfl) (by decide) (by decide)) (g := (mkF m 207 #[vI p0, vI p1, vI p2, vI p3, vI p4, vI v273, vI v279, vI v285, vI v291, vI v294, vI v297, vI v300, vI v303, vR b306, vR b1320, vR b1341, vR s_EMPTY, vR s_EMPTY, vR b1466, .unset, .unset] [(.ref s_EMPTY), (.ref b1341), (.ref s_EMPTY), (.ref b1466), (.ref a1509), (.ref a1490), (.ref b1478), (.ref b1478)])) rfl (by rw [hml]; rfl) (argsL := []) (rest := [(.ref s_EMPTY), (.ref b1341), (.ref s_EMPTY), (.ref b1466), (.ref a1509), (.ref a1490), (.ref b1478), (.ref b1478)]) (lenOf pd_9 rfl) rfl (by show 2 * 0 + _ ≤ _; exact Nat.le_of_eq rfl) (hb hby at_207) (fun _ _ => ⟨rfl, e1509, (by decide : 11 + 0 ≤ _), (by decide : 79 + 0 ≤ _)⟩)
     dsimp only [Pt.U, Pt.locs, Pt.cells, Pt.slots] at X1529 l1529 y1529 z1529 st1529 hQ1529
     subst l1529 y1529 z1529
     obtain ⟨rfl, N1529q, e1529⟩ := hQ1529
     have N1529 := Fr.app N1466 N1529q
     have pre1530 : own_P p e below T1529 (mkF m 210 #[vI p0, vI p1, vI p2, vI p3, vI p4, vI v273, vI v279, vI v285, vI v291, vI v294, vI v297, vI v300, vI v303, vR b306, vR b1320, vR b1341, vR s_EMPTY, vR s_EMPTY, vR b1466, .unset, .unset] [(.ref s_EMPTY), (.ref s_EMPTY), (.ref b1341), (.ref s_EMPTY), (.ref b1466), (.ref a1509), (.ref a1490), (.ref b1478), (.ref b1478)]) s₁ (own_E m p0 p1 p2 p3 p4) := fun t k => pre1528 t (st1529 t k)
     obtain ⟨_, _, ⟨T1531, L1531, k1531, n1531⟩, -, X1531r, hS1531r, hg1531r, ⟨Lc1531, hQ1531, l1531, y1531, z1531, hC1531⟩, st1531⟩ := X1529.specialBackS hx (y := (⟨own_GU, "<init>", "(Ljava/lang/String;Ljava/lang/String;Ljava/util/Optional;Ljava/util/Optional;Ljava/lang/String;Ljava/util/Optional;Ljava/util/Optional;)V"⟩ : MethodName)) rfl ho1509 (mvT hZ1509 (own_w hw 39 rfl)) (mvT hZ1509 (own_w hw 40 rfl)) (mvT hZ1509 (own_w hw 41 rfl)) (by decide) (backOfSH (W := 1) (rm7 l Z ar0 hw [] b1478 a1490 a1509 b1466 s_EMPTY b1341 s_EMPTY s_EMPTY .null .null .null .null .null .null .null h1509 n0 Z1509 Ef1519 Ff1520 Ff1521 Ff1522 Ff1523 Ff1524 Ff1525 Ff1526 g_b1478) hZ1509 (own_w hw 41 rfl) (own_w hw 34 rfl) (by decide) (by decide) hEL CR1509.1) (g := (mkF m 210 #[vI p0, vI p1, vI p2, vI p3, vI p4, vI v273, vI v279, vI v285, vI v291, vI v294, vI v297, vI v300, vI v303, vR b306, vR b1320, vR b1341, vR s_EMPTY, vR s_EMPTY, vR b1466, .unset, .unset] [(.ref s_EMPTY), (.ref s_EMPTY), (.ref b1341), (.ref s_EMPTY), (.ref b1466), (.ref a1509), (.ref a1490), (.ref b1478), (.ref b1478)])) rfl (by rw [hml]; rfl) (Steps.refl _) (a := b1478) (argsL := [(.ref a1490), (.ref a1509), (.ref b1466), (.ref s_EMPTY), (.ref b1341), (.ref s_EMPTY), (.ref s_EMPTY)]) (rest := [(.ref b1478)]) (lenOf pd_11 rfl) rfl (by show 2 * 0 + _ ≤ _; exact Nat.le_of_eq rfl) (hb hby at_210) (fun _ _ => ⟨rfl, e1529, (by decide : 11 + 14 ≤ _), (by decide : 79 + 188 ≤ _)⟩)
     dsimp only [Pt.U, Pt.locs, Pt.cells, Pt.slots] at X1531r hS1531r hg1531r l1531 y1531 z1531 st1531 hQ1531 hC1531
     subst l1531 y1531 z1531
     obtain ⟨X1531, hS1531, hZ1531, ho1531⟩ := rebS (s := s) (vm0 := T1509.vm) (n1 := T1529.heap.size) hS1509 (by rw [e1529]; first | exact hk1509 | exact Nat.le_refl _) X1531r hS1531r hg1531r hZ1509 ho1509
     obtain ⟨h1531, e1531⟩ : ∃ h, T1531.heap = h := ⟨_, rfl⟩
     rw [e1531] at hQ1531
     obtain ⟨rfl, N1531q, K1531q, Q1531_0, Q1531_1, Q1531_2, Q1531_3, Q1531_4, Q1531_5, Q1531_6, Q1531_7⟩ := hQ1531
     have N1531 := Fr.app N1529 N1531q
     have Z1531 : n0 ≤ h1531.size := Nat.le_trans Z1509 K1531q.1
     have K1531 : Keep h0 h1531 [] := K1509.trans K1531q (fun x hx => by cases List.mem_singleton.mp hx; exact Or.inr sz_b1478)
     have Sf1532 : Sta Z h1531 "java/lang/String" "COMPACT_STRINGS" "Z" (.int gc1) := own_sta_keep Sf1510 K1531q (own_ns1 (own_ns_exa Ef1519))
     have Sf1533 : Sta Z h1531 "jdk/internal/util/Preconditions" "SIOOBE_FORMATTER" "Ljava/util/function/BiFunction;" gf3 := own_sta_keep Sf1511 K1531q (own_ns1 (own_ns_exa Ef1519))
     have Sf1534 : Sta Z h1531 "java/util/Optional" "EMPTY" "Ljava/util/Optional;" (.ref s_EMPTY) := own_sta_keep Sf1512 K1531q (own_ns1 (own_ns_exa Ef1519))
     have Ef1535 : Exa Z h1531 s_EMPTY "java/util/Optional" := (Ef1513).keep K1531q
     have Ff1536 : Fld Z h1531 s_EMPTY "java/util/Optional" "value" "Ljava/lang/Object;" .null := (Ff1514).keep K1531q (fun q => absurd (List.mem_singleton.mp q) ne_s_EMPTY_b1478)
     have Ef1537 : Exa Z h1531 b1320 "java/lang/String" := (Ef1515).keep K1531q
     have Ff1538 : Fld Z h1531 b1320 "java/lang/String" "coder" "B" (.int 0) := (Ff1516).keep K1531q (fun q => absurd (List.mem_singleton.mp q) ne_b1320_b1478)
     have Ff1539 : Fld Z h1531 b1320 "java/lang/String" "value" "[B" (.ref t1330) := (Ff1517).keep K1531q (fun q => absurd (List.mem_singleton.mp q) ne_b1320_b1478)
     have Vf1540 : Arv Z h1531 t1330 kt1330 .byte (3 : Int32) ((([(nar .char v294), (nar .char v297), (nar .char v300)] : List Int32).map (fun c => c.toInt8.toInt32)).map Value.int) (.int 0) := (Vf1518).keep K1531q (fun q => absurd (List.mem_singleton.mp q) ne_t1330_b1478)
     have Ef1541 : Exa Z h1531 b1478 own_GU := (Ef1519).keep K1531q
     rw [e1531] at hC1531
     have CR1531 := CR1509.trans hC1531
     have hk1531 : T1531.heap.size ≤ h1531.size := by rw [e1531]; exact Nat.le_refl _
     have pre1542 : own_P p e below T1531 (mkF m 213 #[vI p0, vI p1, vI p2, vI p3, vI p4, vI v273, vI v279, vI v285, vI v291, vI v294, vI v297, vI v300, vI v303, vR b306, vR b1320, vR b1341, vR s_EMPTY, vR s_EMPTY, vR b1466, .unset, .unset] [(.ref b1478)]) s₁ (own_E m p0 p1 p2 p3 p4) := fun t k => pre1530 t (st1531.trans k)
     have pre1543 : own_P p e below T1531 (mkF m 217 #[vI p0, vI p1, vI p2, vI p3, vI p4, vI v273, vI v279, vI v285, vI v291, vI v294, vI v297, vI v300, vI v303, vR b306, vR b1320, vR b1341, vR s_EMPTY, vR s_EMPTY, vR b1466, vR b1478, .unset] [(.ref b1478)]) s₁ (own_E m p0 p1 p2 p3 p4) := by
      intro t k
      refine pre1542 t ?_
      refine XS.astore X1531.here hx rfl (hb hby at_213) rfl rfl (l' := #[vI p0, vI p1, vI p2, vI p3, vI p4, vI v273, vI v279, vI v285, vI v291, vI v294, vI v297, vI v300, vI v303, vR b306, vR b1320, vR b1341, vR s_EMPTY, vR s_EMPTY, vR b1466, vR b1478, .unset]) rfl ?_
      refine XS.aload X1531.here hx rfl (hb hby at_215) rfl rfl ?_
      exact k
     obtain ⟨cq1544, kq1544, q1544a, q1544b, q1544c⟩ := isOf hZ1531 e1531 Q1531_0
     obtain ⟨_, _, ⟨T1544, L1544, k1544, n1544⟩, -, X1544r, hS1544r, hg1544r, ⟨Lc1544, hQ1544, l1544, y1544, z1544, hC1544⟩, st1544⟩ := X1531.virtualBackS hx (y := (⟨own_GU, "effectiveType", "()Ljava/lang/String;"⟩ : MethodName)) (z := (⟨own_GU, "effectiveType", "()Ljava/lang/String;"⟩ : MethodName)) ho1531 (mvT hZ1531 (own_w hw 73 rfl)) (mvT hZ1531 (own_w hw 74 rfl)) (notFace_of_selects (args := #[]) (mvT hZ1531 (own_w hw 76 rfl))) (mvT hZ1531 (own_w hw 76 rfl)) (mvT hZ1531 (own_w hw 75 rfl)) (by decide) (backOfSH (W := 0) (rm10_n l Z ar0 hw [] b1478 s_EMPTY h1531 n0 Z1531 Q1531_0 Q1531_4 Ef1535 Ff1536) hZ1531 (own_w hw 77 rfl) (own_w hw 34 rfl) (by decide) (by decide) hEL CR1531.1) q1544a q1544c (g := (mkF m 217 #[vI p0, vI p1, vI p2, vI p3, vI p4, vI v273, vI v279, vI v285, vI v291, vI v294, vI v297, vI v300, vI v303, vR b306, vR b1320, vR b1341, vR s_EMPTY, vR s_EMPTY, vR b1466, vR b1478, .unset] [(.ref b1478)])) rfl (by rw [hml]; rfl) (Steps.refl _) (argsL := []) (rest := []) (lenOf pd_12 rfl) rfl (by show 2 * 0 + _ ≤ _; exact Nat.le_of_eq rfl) (hb hby at_217) (fun _ _ => ⟨rfl, e1531, (by decide : 25 + 2 ≤ _), (by decide : 267 + 8 ≤ _)⟩)
     dsimp only [Pt.U, Pt.locs, Pt.cells, Pt.slots] at X1544r hS1544r hg1544r l1544 y1544 z1544 st1544 hQ1544 hC1544
     subst l1544 y1544 z1544
     obtain ⟨X1544, hS1544, hZ1544, ho1544⟩ := rebS (s := s) (vm0 := T1531.vm) (n1 := T1531.heap.size) hS1531 (by rw [e1531]; first | exact hk1531 | exact Nat.le_refl _) X1544r hS1544r hg1544r hZ1531 ho1531
     obtain ⟨h1544, e1544⟩ : ∃ h, T1544.heap = h := ⟨_, rfl⟩
     rw [e1544] at hQ1544
     obtain ⟨b1544, b1544b, kb1544b, rfl, N1544q, K1544q, Ob1544_0, Ob1544_1, Ob1544_2, Ob1544b_0⟩ := hQ1544
     have N1544 := Fr.app N1531 N1544q
     have Z1544 : n0 ≤ h1544.size := Nat.le_trans Z1531 K1544q.1
     have K1544 : Keep h0 h1544 [] := K1531.trans K1544q (fun x hx => absurd hx List.not_mem_nil)
     have Sf1545 : Sta Z h1544 "java/lang/String" "COMPACT_STRINGS" "Z" (.int gc1) := own_sta_keep0 Sf1532 K1544q
     have Sf1546 : Sta Z h1544 "jdk/internal/util/Preconditions" "SIOOBE_FORMATTER" "Ljava/util/function/BiFunction;" gf3 := own_sta_keep0 Sf1533 K1544q
     have Sf1547 : Sta Z h1544 "java/util/Optional" "EMPTY" "Ljava/util/Optional;" (.ref s_EMPTY) := own_sta_keep0 Sf1534 K1544q
     have Ef1548 : Exa Z h1544 s_EMPTY "java/util/Optional" := (Ef1535).keep K1544q
     have Ff1549 : Fld Z h1544 s_EMPTY "java/util/Optional" "value" "Ljava/lang/Object;" .null := (Ff1536).keep K1544q List.not_mem_nil
     have Ef1550 : Exa Z h1544 b1320 "java/lang/String" := (Ef1537).keep K1544q
     have Ff1551 : Fld Z h1544 b1320 "java/lang/String" "coder" "B" (.int 0) := (Ff1538).keep K1544q List.not_mem_nil
     have Ff1552 : Fld Z h1544 b1320 "java/lang/String" "value" "[B" (.ref t1330) := (Ff1539).keep K1544q List.not_mem_nil
     have Vf1553 : Arv Z h1544 t1330 kt1330 .byte (3 : Int32) ((([(nar .char v294), (nar .char v297), (nar .char v300)] : List Int32).map (fun c => c.toInt8.toInt32)).map Value.int) (.int 0) := (Vf1540).keep K1544q List.not_mem_nil
     have Ef1554 : Exa Z h1544 b1478 own_GU := (Q1531_0).keep K1544q
     have Ff1555 : Fld Z h1544 b1478 own_GU "text" "Ljava/lang/String;" (.ref a1490) := (Q1531_1).keep K1544q List.not_mem_nil
     have Ff1556 : Fld Z h1544 b1478 own_GU "host" "Ljava/lang/String;" (.ref a1509) := (Q1531_2).keep K1544q List.not_mem_nil
     have Ff1557 : Fld Z h1544 b1478 own_GU "port" "Ljava/util/Optional;" (.ref b1466) := (Q1531_3).keep K1544q List.not_mem_nil
     have Ff1558 : Fld Z h1544 b1478 own_GU "type" "Ljava/util/Optional;" (.ref s_EMPTY) := (Q1531_4).keep K1544q List.not_mem_nil
     have Ff1559 : Fld Z h1544 b1478 own_GU "selector" "Ljava/lang/String;" (.ref b1341) := (Q1531_5).keep K1544q List.not_mem_nil
     have Ff1560 : Fld Z h1544 b1478 own_GU "search" "Ljava/util/Optional;" (.ref s_EMPTY) := (Q1531_6).keep K1544q List.not_mem_nil
     have Ff1561 : Fld Z h1544 b1478 own_GU "gopherPlus" "Ljava/util/Optional;" (.ref s_EMPTY) := (Q1531_7).keep K1544q List.not_mem_nil
     rw [e1544] at hC1544
     have CR1544 := CR1531.trans hC1544
     have hk1544 : T1544.heap.size ≤ h1544.size := by rw [e1544]; exact Nat.le_refl _
     have pre1562 : own_P p e below T1544 (mkF m 220 #[vI p0, vI p1, vI p2, vI p3, vI p4, vI v273, vI v279, vI v285, vI v291, vI v294, vI v297, vI v300, vI v303, vR b306, vR b1320, vR b1341, vR s_EMPTY, vR s_EMPTY, vR b1466, vR b1478, .unset] [(.ref b1544)]) s₁ (own_E m p0 p1 p2 p3 p4) := fun t k => pre1543 t (st1544.trans k)
     have pre1563 : own_P p e below T1544 (mkF m 244 #[vI p0, vI p1, vI p2, vI p3, vI p4, vI v273, vI v279, vI v285, vI v291, vI v294, vI v297, vI v300, vI v303, vR b306, vR b1320, vR b1341, vR s_EMPTY, vR s_EMPTY, vR b1466, vR b1478, vR b1544] [(.ref b1544)]) s₁ (own_E m p0 p1 p2 p3 p4) := by
      intro t k
      refine pre1562 t ?_
      refine XS.astore X1544.here hx rfl (hb hby at_220) rfl rfl (l' := #[vI p0, vI p1, vI p2, vI p3, vI p4, vI v273, vI v279, vI v285, vI v291, vI v294, vI v297, vI v300, vI v303, vR b306, vR b1320, vR b1341, vR s_EMPTY, vR s_EMPTY, vR b1466, vR b1478, vR b1544]) rfl ?_
      refine XS.aload X1544.here hx rfl (hb hby at_222) rfl rfl ?_
      refine XS.ifnonnullYes X1544.here hx rfl (pc0 := 224) (pc' := 229) rfl (hb hby at_224) rfl (by decide) (by decide) ?_
      refine XS.iload X1544.here hx rfl (hb hby at_229) rfl ?_
      refine XS.ifYes X1544.here hx rfl (pc0 := 231) (pc' := 242) rfl (hb hby at_231) rfl ((if0 _ _).trans (teq hc139_1355).1) (by decide) (by decide) ?_
      refine XS.aload X1544.here hx rfl (hb hby at_242) rfl rfl ?_
      exact k
     obtain ⟨cq1564, kq1564, q1564a, q1564b, q1564c⟩ := isOf hZ1544 e1544 Ob1544_0
     obtain ⟨_, _, ⟨T1564, L1564, k1564, n1564⟩, -, X1564, ⟨Lc1564, hQ1564, l1564, y1564, z1564⟩, st1564⟩ := X1544.virtualBack hx (y := (⟨"java/lang/String", "length", "()I"⟩ : MethodName)) (z := (⟨"java/lang/String", "length", "()I"⟩ : MethodName)) ho1544 (mvT hZ1544 (own_w hw 87 rfl)) (mvT hZ1544 (own_w hw 88 rfl)) (notFace_of_selects (args := #[]) (mvT hZ1544 (own_w hw 90 rfl))) (mvT hZ1544 (own_w hw 90 rfl)) (mvT hZ1544 (own_w hw 89 rfl)) (by decide) (StrChars.Road.lenW (W := 0) hZ1544 (own_wordsLen hw) (kI := 4) (own_w hw 11 rfl) Ob1544_0 Ob1544_2 Ob1544_1 Ob1544b_0 (own_hcdG (cs := [49]) (by decide)) (own_up [49] (by decide)) Sf1545 P5 (Nat.le_of_ble_eq_true rfl) (by decide) (by decide)) q1564a q1564c (g := (mkF m 244 #[vI p0, vI p1, vI p2, vI p3, vI p4, vI v273, vI v279, vI v285, vI v291, vI v294, vI v297, vI v300, vI v303, vR b306, vR b1320, vR b1341, vR s_EMPTY, vR s_EMPTY, vR b1466, vR b1478, vR b1544] [(.ref b1544)])) rfl (by rw [hml]; rfl) (Steps.refl _) (argsL := []) (rest := []) (lenOf pd_13 rfl) rfl (by show 2 * 0 + _ ≤ _; exact Nat.le_of_eq rfl) (hb hby at_244) (fun _ _ => ⟨rfl, e1544, (by decide : 27 + 0 ≤ _), (by decide : 275 + 0 ≤ _)⟩)
     dsimp only [Pt.U, Pt.locs, Pt.cells, Pt.slots] at X1564 l1564 y1564 z1564 st1564 hQ1564
     subst l1564 y1564 z1564
     obtain ⟨rfl, rfl, e1564⟩ := hQ1564
     try rw [List.append_nil] at X1564
     have pre1565 : own_P p e below T1564 (mkF m 247 #[vI p0, vI p1, vI p2, vI p3, vI p4, vI v273, vI v279, vI v285, vI v291, vI v294, vI v297, vI v300, vI v303, vR b306, vR b1320, vR b1341, vR s_EMPTY, vR s_EMPTY, vR b1466, vR b1478, vR b1544] [(.int (Int32.ofNat ([49] : List Int32).length))]) s₁ (own_E m p0 p1 p2 p3 p4) := fun t k => pre1563 t (st1564.trans k)
     have pre1566 : own_P p e below T1564 (mkF m 248 #[vI p0, vI p1, vI p2, vI p3, vI p4, vI v273, vI v279, vI v285, vI v291, vI v294, vI v297, vI v300, vI v303, vR b306, vR b1320, vR b1341, vR s_EMPTY, vR s_EMPTY, vR b1466, vR b1478, vR b1544] [(.int 1), (.int (Int32.ofNat ([49] : List Int32).length))]) s₁ (own_E m p0 p1 p2 p3 p4) := by
      intro t k
      refine pre1565 t ?_
      refine XS.iconst X1564.here hx rfl (hb hby at_247) ?_
      exact k
     have hk1567 : (Int32.ofNat ([49] : List Int32).length) = (1 : Int32) := (by decide)
     have pre1568 : own_P p e below T1564 (mkF m 254 #[vI p0, vI p1, vI p2, vI p3, vI p4, vI v273, vI v279, vI v285, vI v291, vI v294, vI v297, vI v300, vI v303, vR b306, vR b1320, vR b1341, vR s_EMPTY, vR s_EMPTY, vR b1466, vR b1478, vR b1544] [(.int 0), (.ref b1544)]) s₁ (own_E m p0 p1 p2 p3 p4) := by
      intro t k
      refine pre1566 t ?_
      refine XS.icmpNo X1564.here hx rfl (hb hby at_248) rfl (teq hk1567).2 ?_
      refine XS.aload X1564.here hx rfl (hb hby at_251) rfl rfl ?_
      refine XS.iconst X1564.here hx rfl (hb hby at_253) ?_
      exact k
     obtain ⟨cq1569, kq1569, q1569a, q1569b, q1569c⟩ := isOf hZ1544 e1564 Ob1544_0
     obtain ⟨_, _, ⟨T1569, L1569, k1569, n1569⟩, -, X1569, ⟨Lc1569, hQ1569, l1569, y1569, z1569⟩, st1569⟩ := X1564.virtualBack hx (y := (⟨"java/lang/String", "charAt", "(I)C"⟩ : MethodName)) (z := (⟨"java/lang/String", "charAt", "(I)C"⟩ : MethodName)) ho1544 (mvT hZ1544 (own_w hw 97 rfl)) (mvT hZ1544 (own_w hw 98 rfl)) (notFace_of_selects (args := #[]) (mvT hZ1544 (own_w hw 100 rfl))) (mvT hZ1544 (own_w hw 100 rfl)) (mvT hZ1544 (own_w hw 99 rfl)) (by decide) (StrChars.Road.chN (W := 0) hZ1544 (own_wordsChN hw) (kI := 4) (own_w hw 11 rfl) Ob1544_0 Ob1544_2 Ob1544_1 Ob1544b_0 (own_hcdG (cs := [49]) (by decide)) (own_up [49] (by decide)) Sf1545 P5 Sf1546 rG3 (Nat.le_of_ble_eq_true rfl) (i := 0) (by decide) (j := (0 : Int32)) rfl (by decide) (by decide)) q1569a q1569c (g := (mkF m 254 #[vI p0, vI p1, vI p2, vI p3, vI p4, vI v273, vI v279, vI v285, vI v291, vI v294, vI v297, vI v300, vI v303, vR b306, vR b1320, vR b1341, vR s_EMPTY, vR s_EMPTY, vR b1466, vR b1478, vR b1544] [(.int 0), (.ref b1544)])) rfl (by rw [hml]; rfl) (Steps.refl _) (argsL := [(.int 0)]) (rest := []) (lenOf pd_14 rfl) rfl (by show 2 * 0 + _ ≤ _; exact Nat.le_of_eq rfl) (hb hby at_254) (fun _ _ => ⟨rfl, e1564, (by decide : 27 + 0 ≤ _), (by decide : 275 + 0 ≤ _)⟩)
     dsimp only [Pt.U, Pt.locs, Pt.cells, Pt.slots] at X1569 l1569 y1569 z1569 st1569 hQ1569
     subst l1569 y1569 z1569
     obtain ⟨rfl, rfl, e1569⟩ := hQ1569
     try rw [List.append_nil] at X1569
     have pre1570 : own_P p e below T1569 (mkF m 257 #[vI p0, vI p1, vI p2, vI p3, vI p4, vI v273, vI v279, vI v285, vI v291, vI v294, vI v297, vI v300, vI v303, vR b306, vR b1320, vR b1341, vR s_EMPTY, vR s_EMPTY, vR b1466, vR b1478, vR b1544] [(.int (([49] : List Int32).getD 0 0))]) s₁ (own_E m p0 p1 p2 p3 p4) := fun t k => pre1568 t (st1569.trans k)
     have pre1571 : own_P p e below T1569 (mkF m 259 #[vI p0, vI p1, vI p2, vI p3, vI p4, vI v273, vI v279, vI v285, vI v291, vI v294, vI v297, vI v300, vI v303, vR b306, vR b1320, vR b1341, vR s_EMPTY, vR s_EMPTY, vR b1466, vR b1478, vR b1544] [(.int 49), (.int (([49] : List Int32).getD 0 0))]) s₁ (own_E m p0 p1 p2 p3 p4) := by
      intro t k
      refine pre1570 t ?_
      refine XS.bipush X1569.here hx rfl (hb hby at_257) ?_
      exact k
     have hk1572 : (([49] : List Int32).getD 0 0) = (49 : Int32) := (by decide)
     obtain ⟨fs, hr, hrun, hended, hRW⟩ := X1569.leaveW (s := s) (vm₁ := T1544.vm) hS1544 (by rw [e1569]; first | exact hk1544 | exact Nat.le_refl _) (v := some (.int 1)) (fun h => by rw [Bd.returns] at h; cases h)
     refine ⟨_, _, pre1571 _ ?_, hrun, hended, _, _, rfl, ?_, hRW.1, hRW.2.1, hRW.2.2.1, hRW.2.2.2.mono (by decide) (by decide)⟩
     ·
      refine XS.icmpNo X1569.here hx rfl (hb hby at_259) rfl (teq hk1572).2 ?_
      refine XS.iconst X1569.here hx rfl (hb hby at_262) ?_
      refine XS.goto X1569.here hx rfl (pc0 := 263) (pc' := 267) rfl (hb hby at_263) (by decide) (by decide) ?_
      exact retN X1569 hx (t := .boolean) Bd.returns (by simp) (hb hby at_267) hr
     ·
      show Q0 Z p0 p1 p2 p3 p4 gc1 gf3 s_EMPTY h0 n0 _ T1569.heap _
      rw [e1569]
      exact ⟨rfl, N1544⟩
   ·
    have pre1573 : ∀ t, Steps p.tables e below (T1357.setTop (mkF m 162 #[vI p0, vI p1, vI p2, vI p3, vI p4, vI v273, vI v279, vI v285, vI v291, vI v294, vI v297, vI v300, vI v303, vR b306, vR b1320, vR b1341, vR s_EMPTY, .unset, .unset, .unset, .unset] [(.ref b1341)])) t → Steps p.tables e below (s₁.setTop (own_E m p0 p1 p2 p3 p4)) t := by
     intro t k
     refine pre1359 t ?_
     refine XS.ifNo X1357.here hx rfl (hb hby at_157) rfl ((if0 _ _).trans (feq hc157_1360).1) ?_
     refine XS.aload X1357.here hx rfl (hb hby at_160) rfl rfl ?_
     exact k
    obtain ⟨_, _, ⟨T1574, L1574, k1574, n1574⟩, -, X1574, ⟨Lc1574, hQ1574, l1574, y1574, z1574⟩, st1574⟩ := Jvm.LawKit.callS X1357 hx (y := (⟨"java/util/Optional", "of", "(Ljava/lang/Object;)Ljava/util/Optional;"⟩ : MethodName)) hown (mvT hZ (own_w hw 135 rfl)) (mvT hZ (own_w hw 136 rfl)) (mvT hZ (own_w hw 29 rfl)) (mvT hZ (own_w hw 137 rfl)) (by decide) (backOf (W := 0) (rm24 l Z ar0 hw [] b1341 h1341 n0 Z1341) hZ (own_w hw 137 rfl) (own_w hw 29 rfl) (by decide) (by decide)) (g := (mkF m 162 #[vI p0, vI p1, vI p2, vI p3, vI p4, vI v273, vI v279, vI v285, vI v291, vI v294, vI v297, vI v300, vI v303, vR b306, vR b1320, vR b1341, vR s_EMPTY, .unset, .unset, .unset, .unset] [(.ref b1341)])) rfl (by rw [hml]; rfl) (argsL := [(.ref b1341)]) (rest := []) (lenOf pd_10 rfl) rfl (by show 2 * 0 + _ ≤ _; exact Nat.le_of_eq rfl) (hb hby at_162) (fun _ _ => ⟨rfl, e1357, (by decide : 5 + 1 ≤ _), (by decide : 15 + 1 ≤ _)⟩)
    dsimp only [Pt.U, Pt.locs, Pt.cells, Pt.slots] at X1574 l1574 y1574 z1574 st1574 hQ1574
    subst l1574 y1574 z1574
    obtain ⟨h1574, e1574⟩ : ∃ h, T1574.heap = h := ⟨_, rfl⟩
    rw [e1574] at hQ1574
    obtain ⟨b1574, rfl, N1574q, K1574q, y_b1574, Ob1574_0, Ob1574_1⟩ := hQ1574
    have N1574 := Fr.app N1357 N1574q
    have ne_s_EMPTY_b1574 : s_EMPTY ≠ b1574 := Nat.ne_of_lt (Nat.lt_of_lt_of_le (Ef1345).lt y_b1574)
    have ne_b1320_b1574 : b1320 ≠ b1574 := Nat.ne_of_lt (Nat.lt_of_lt_of_le (Ef1349).lt y_b1574)
    have ne_t1330_b1574 : t1330 ≠ b1574 := Nat.ne_of_lt (Nat.lt_of_lt_of_le (Vf1352).lt y_b1574)
    have g_b1574 : n0 ≤ b1574 := Nat.le_trans Z1341 y_b1574
    have sz_b1574 : h0.size ≤ b1574 := Nat.le_trans K1341.1 y_b1574
    have Z1574 : n0 ≤ h1574.size := Nat.le_trans Z1341 K1574q.1
    have hk1574 := Nat.le_trans hk1341 K1574q.1
    have K1574 : Keep h0 h1574 [] := K1341.trans K1574q (fun x hx => absurd hx List.not_mem_nil)
    have sf_b1320_1574 := Safe.keep K1574q sf0 CR1341.1 sf_b1320_1341
    have CR1574 := CR1341.trans (CHr.keep K1574q sf0 CR1341.1)
    have Sf1575 : Sta Z h1574 "java/lang/String" "COMPACT_STRINGS" "Z" (.int gc1) := own_sta_keep0 Sf1342 K1574q
    have Sf1576 : Sta Z h1574 "jdk/internal/util/Preconditions" "SIOOBE_FORMATTER" "Ljava/util/function/BiFunction;" gf3 := own_sta_keep0 Sf1343 K1574q
    have Sf1577 : Sta Z h1574 "java/util/Optional" "EMPTY" "Ljava/util/Optional;" (.ref s_EMPTY) := own_sta_keep0 Sf1344 K1574q
    have Ef1578 : Exa Z h1574 s_EMPTY "java/util/Optional" := (Ef1345).keep K1574q
    have Ff1579 : Fld Z h1574 s_EMPTY "java/util/Optional" "value" "Ljava/lang/Object;" .null := (Ff1346).keep K1574q List.not_mem_nil
    have Ef1580 : Exa Z h1574 b1320 "java/lang/String" := (Ef1349).keep K1574q
    have Ff1581 : Fld Z h1574 b1320 "java/lang/String" "coder" "B" (.int 0) := (Ff1350).keep K1574q List.not_mem_nil
    have Ff1582 : Fld Z h1574 b1320 "java/lang/String" "value" "[B" (.ref t1330) := (Ff1351).keep K1574q List.not_mem_nil
    have Vf1583 : Arv Z h1574 t1330 kt1330 .byte (3 : Int32) ((([(nar .char v294), (nar .char v297), (nar .char v300)] : List Int32).map (fun c => c.toInt8.toInt32)).map Value.int) (.int 0) := (Vf1352).keep K1574q List.not_mem_nil
    have pre1584 : own_P p e below T1574 (mkF m 165 #[vI p0, vI p1, vI p2, vI p3, vI p4, vI v273, vI v279, vI v285, vI v291, vI v294, vI v297, vI v300, vI v303, vR b306, vR b1320, vR b1341, vR s_EMPTY, .unset, .unset, .unset, .unset] [(.ref b1574)]) s₁ (own_E m p0 p1 p2 p3 p4) := fun t k => pre1573 t (st1574 t k)
    have pre1585 : own_P p e below T1574 (mkF m 175 #[vI p0, vI p1, vI p2, vI p3, vI p4, vI v273, vI v279, vI v285, vI v291, vI v294, vI v297, vI v300, vI v303, vR b306, vR b1320, vR b1341, vR s_EMPTY, vR b1574, .unset, .unset, .unset] [(.int v291)]) s₁ (own_E m p0 p1 p2 p3 p4) := by
     intro t k
     refine pre1584 t ?_
     refine XS.goto X1574.here hx rfl (pc0 := 165) (pc' := 171) rfl (hb hby at_165) (by decide) (by decide) ?_
     refine XS.astore X1574.here hx rfl (hb hby at_171) rfl rfl (l' := #[vI p0, vI p1, vI p2, vI p3, vI p4, vI v273, vI v279, vI v285, vI v291, vI v294, vI v297, vI v300, vI v303, vR b306, vR b1320, vR b1341, vR s_EMPTY, vR b1574, .unset, .unset, .unset]) rfl ?_
     refine XS.iload X1574.here hx rfl (hb hby at_173) rfl ?_
     exact k
    by_cases hc175_1586 : v291 = (0 : Int32)
    ·
     have pre1587 : ∀ t, Steps p.tables e below (T1574.setTop (mkF m 186 #[vI p0, vI p1, vI p2, vI p3, vI p4, vI v273, vI v279, vI v285, vI v291, vI v294, vI v297, vI v300, vI v303, vR b306, vR b1320, vR b1341, vR s_EMPTY, vR b1574, .unset, .unset, .unset] [])) t → Steps p.tables e below (s₁.setTop (own_E m p0 p1 p2 p3 p4)) t := by
      intro t k
      refine pre1585 t ?_
      refine XS.ifYes X1574.here hx rfl (pc0 := 175) (pc' := 186) rfl (hb hby at_175) rfl ((if0 _ _).trans (teq hc175_1586).1) (by decide) (by decide) ?_
      exact k
     obtain ⟨_, _, ⟨T1588, L1588, k1588, n1588⟩, -, X1588, ⟨Lc1588, hQ1588, l1588, y1588, z1588⟩, st1588⟩ := Jvm.LawKit.callS X1574 hx (y := (⟨"java/util/Optional", "empty", "()Ljava/util/Optional;"⟩ : MethodName)) hown (mvT hZ (own_w hw 27 rfl)) (mvT hZ (own_w hw 28 rfl)) (mvT hZ (own_w hw 29 rfl)) (mvT hZ (own_w hw 30 rfl)) (by decide) (backOf (W := 0) (rm6 l Z ar0 hw [] s_EMPTY h1574 n0 Z1574 Sf1577) hZ (own_w hw 30 rfl) (own_w hw 29 rfl) (by decide) (by decide)) (g := (mkF m 186 #[vI p0, vI p1, vI p2, vI p3, vI p4, vI v273, vI v279, vI v285, vI v291, vI v294, vI v297, vI v300, vI v303, vR b306, vR b1320, vR b1341, vR s_EMPTY, vR b1574, .unset, .unset, .unset] [])) rfl (by rw [hml]; rfl) (argsL := []) (rest := []) (lenOf pd_9 rfl) rfl (by show 2 * 0 + _ ≤ _; exact Nat.le_of_eq rfl) (hb hby at_186) (fun _ _ => ⟨rfl, e1574, (by decide : 6 + 0 ≤ _), (by decide : 16 + 0 ≤ _)⟩)
     dsimp only [Pt.U, Pt.locs, Pt.cells, Pt.slots] at X1588 l1588 y1588 z1588 st1588 hQ1588
     subst l1588 y1588 z1588
     obtain ⟨rfl, N1588q, e1588⟩ := hQ1588
     have N1588 := Fr.app N1574 N1588q
     have pre1589 : own_P p e below T1588 (mkF m 189 #[vI p0, vI p1, vI p2, vI p3, vI p4, vI v273, vI v279, vI v285, vI v291, vI v294, vI v297, vI v300, vI v303, vR b306, vR b1320, vR b1341, vR s_EMPTY, vR b1574, .unset, .unset, .unset] [(.ref s_EMPTY)]) s₁ (own_E m p0 p1 p2 p3 p4) := fun t k => pre1587 t (st1588 t k)
     have pre1590 : own_P p e below T1588 (mkF m 191 #[vI p0, vI p1, vI p2, vI p3, vI p4, vI v273, vI v279, vI v285, vI v291, vI v294, vI v297, vI v300, vI v303, vR b306, vR b1320, vR b1341, vR s_EMPTY, vR b1574, vR s_EMPTY, .unset, .unset] []) s₁ (own_E m p0 p1 p2 p3 p4) := by
      intro t k
      refine pre1589 t ?_
      refine XS.astore X1588.here hx rfl (hb hby at_189) rfl rfl (l' := #[vI p0, vI p1, vI p2, vI p3, vI p4, vI v273, vI v279, vI v285, vI v291, vI v294, vI v297, vI v300, vI v303, vR b306, vR b1320, vR b1341, vR s_EMPTY, vR b1574, vR s_EMPTY, .unset, .unset]) rfl ?_
      exact k
     obtain ⟨T1591, h1591, X1591, e1591, E1591, A1591, D1591, -, st1591⟩ := newO X1588 hx hZ hown (own_w hw 32 rfl) (own_w hw 33 rfl) (own_w hw 34 rfl) e1588 (g := (mkF m 191 #[vI p0, vI p1, vI p2, vI p3, vI p4, vI v273, vI v279, vI v285, vI v291, vI v294, vI v297, vI v300, vI v303, vR b306, vR b1320, vR b1341, vR s_EMPTY, vR b1574, vR s_EMPTY, .unset, .unset] [])) rfl (hb hby at_191) (by decide) (by decide)
     obtain ⟨b1591, g1591⟩ : ∃ z, z = h1574.size := ⟨_, rfl⟩
     rw [← g1591] at A1591 D1591 st1591
     have ne_s_EMPTY_b1591 : s_EMPTY ≠ b1591 := Nat.ne_of_lt (Nat.lt_of_lt_of_le (Ef1578).lt (Nat.le_of_eq g1591.symm))
     have ne_b1320_b1591 : b1320 ≠ b1591 := Nat.ne_of_lt (Nat.lt_of_lt_of_le (Ef1580).lt (Nat.le_of_eq g1591.symm))
     have ne_t1330_b1591 : t1330 ≠ b1591 := Nat.ne_of_lt (Nat.lt_of_lt_of_le (Vf1583).lt (Nat.le_of_eq g1591.symm))
     have g_b1591 : n0 ≤ b1591 := Nat.le_trans Z1574 (Nat.le_of_eq g1591.symm)
     have sz_b1591 : h0.size ≤ b1591 := Nat.le_trans K1574.1 (Nat.le_of_eq g1591.symm)
     have Z1591 : n0 ≤ h1591.size := Nat.le_trans Z1574 E1591.1
     have K1591 : Keep h0 h1591 [] := K1574.ext E1591
     have hk1591 := Nat.le_trans hk1574 E1591.1
     have sf_b1320_1591 := Safe.ext E1591 CR1574.1 sf_b1320_1574
     have CR1591 := CR1574.trans (CHr.ext E1591 CR1574.1)
     have Sf1592 : Sta Z h1591 "java/lang/String" "COMPACT_STRINGS" "Z" (.int gc1) := (Sf1575).ext E1591
     have Sf1593 : Sta Z h1591 "jdk/internal/util/Preconditions" "SIOOBE_FORMATTER" "Ljava/util/function/BiFunction;" gf3 := (Sf1576).ext E1591
     have Sf1594 : Sta Z h1591 "java/util/Optional" "EMPTY" "Ljava/util/Optional;" (.ref s_EMPTY) := (Sf1577).ext E1591
     have Ef1595 : Exa Z h1591 s_EMPTY "java/util/Optional" := (Ef1578).ext E1591
     have Ff1596 : Fld Z h1591 s_EMPTY "java/util/Optional" "value" "Ljava/lang/Object;" .null := (Ff1579).ext E1591
     have Ef1597 : Exa Z h1591 b1320 "java/lang/String" := (Ef1580).ext E1591
     have Ff1598 : Fld Z h1591 b1320 "java/lang/String" "coder" "B" (.int 0) := (Ff1581).ext E1591
     have Ff1599 : Fld Z h1591 b1320 "java/lang/String" "value" "[B" (.ref t1330) := (Ff1582).ext E1591
     have Vf1600 : Arv Z h1591 t1330 kt1330 .byte (3 : Int32) ((([(nar .char v294), (nar .char v297), (nar .char v300)] : List Int32).map (fun c => c.toInt8.toInt32)).map Value.int) (.int 0) := (Vf1583).ext E1591
     have Ftext_b1591 : Fld Z h1591 b1591 own_GU "text" "Ljava/lang/String;" .null := D1591 (Or.inr (own_w hw 60 rfl)) (ty := (.object "java/lang/String")) (by decide)
     have Fhost_b1591 : Fld Z h1591 b1591 own_GU "host" "Ljava/lang/String;" .null := D1591 (Or.inr (own_w hw 62 rfl)) (ty := (.object "java/lang/String")) (by decide)
     have Fport_b1591 : Fld Z h1591 b1591 own_GU "port" "Ljava/util/Optional;" .null := D1591 (Or.inr (own_w hw 64 rfl)) (ty := (.object "java/util/Optional")) (by decide)
     have Ftype_b1591 : Fld Z h1591 b1591 own_GU "type" "Ljava/util/Optional;" .null := D1591 (Or.inr (own_w hw 66 rfl)) (ty := (.object "java/util/Optional")) (by decide)
     have Fselector_b1591 : Fld Z h1591 b1591 own_GU "selector" "Ljava/lang/String;" .null := D1591 (Or.inr (own_w hw 68 rfl)) (ty := (.object "java/lang/String")) (by decide)
     have Fsearch_b1591 : Fld Z h1591 b1591 own_GU "search" "Ljava/util/Optional;" .null := D1591 (Or.inr (own_w hw 70 rfl)) (ty := (.object "java/util/Optional")) (by decide)
     have FgopherPlus_b1591 : Fld Z h1591 b1591 own_GU "gopherPlus" "Ljava/util/Optional;" .null := D1591 (Or.inr (own_w hw 72 rfl)) (ty := (.object "java/util/Optional")) (by decide)
     have pre1601 : own_P p e below T1591 (mkF m 194 #[vI p0, vI p1, vI p2, vI p3, vI p4, vI v273, vI v279, vI v285, vI v291, vI v294, vI v297, vI v300, vI v303, vR b306, vR b1320, vR b1341, vR s_EMPTY, vR b1574, vR s_EMPTY, .unset, .unset] [(.ref b1591)]) s₁ (own_E m p0 p1 p2 p3 p4) := fun t k => pre1590 t (st1591 t k)
     have pre1602 : own_P p e below T1591 (mkF m 195 #[vI p0, vI p1, vI p2, vI p3, vI p4, vI v273, vI v279, vI v285, vI v291, vI v294, vI v297, vI v300, vI v303, vR b306, vR b1320, vR b1341, vR s_EMPTY, vR b1574, vR s_EMPTY, .unset, .unset] [(.ref b1591), (.ref b1591)]) s₁ (own_E m p0 p1 p2 p3 p4) := by
      intro t k
      refine pre1601 t ?_
      refine XS.dup X1591.here hx rfl (hb hby at_194) rfl rfl ?_
      exact k
     obtain ⟨a1603, T1603, h1603, k1603, X1603, e1603, E1603, hS1603, hk1603, hZ1603, ho1603, hC1603, -, st1603⟩ := ldcOH (s := s) (vm0 := s.vm) X1591 hx hZ hown (own_w hw 35 rfl) (own_strW hw) e1591 hS0 hk1591 hEL CR1591.1 (g := (mkF m 195 #[vI p0, vI p1, vI p2, vI p3, vI p4, vI v273, vI v279, vI v285, vI v291, vI v294, vI v297, vI v300, vI v303, vR b306, vR b1320, vR b1341, vR s_EMPTY, vR b1574, vR s_EMPTY, .unset, .unset] [(.ref b1591), (.ref b1591)])) rfl (hb hby at_195) (n := 44) (by decide) (by decide) (by decide) (by decide)
     have sf_b1320_1603 := CHr.safe hC1603 (Ef1597).lt sf_b1320_1591
     have CR1603 := CR1591.trans hC1603
     have Z1603 : n0 ≤ h1603.size := Nat.le_trans Z1591 E1603.1
     have K1603 : Keep h0 h1603 [] := K1591.ext E1603
     have Sf1604 : Sta Z h1603 "java/lang/String" "COMPACT_STRINGS" "Z" (.int gc1) := (Sf1592).ext E1603
     have Sf1605 : Sta Z h1603 "jdk/internal/util/Preconditions" "SIOOBE_FORMATTER" "Ljava/util/function/BiFunction;" gf3 := (Sf1593).ext E1603
     have Sf1606 : Sta Z h1603 "java/util/Optional" "EMPTY" "Ljava/util/Optional;" (.ref s_EMPTY) := (Sf1594).ext E1603
     have Ef1607 : Exa Z h1603 s_EMPTY "java/util/Optional" := (Ef1595).ext E1603
     have Ff1608 : Fld Z h1603 s_EMPTY "java/util/Optional" "value" "Ljava/lang/Object;" .null := (Ff1596).ext E1603
     have Ef1609 : Exa Z h1603 b1320 "java/lang/String" := (Ef1597).ext E1603
     have Ff1610 : Fld Z h1603 b1320 "java/lang/String" "coder" "B" (.int 0) := (Ff1598).ext E1603
     have Ff1611 : Fld Z h1603 b1320 "java/lang/String" "value" "[B" (.ref t1330) := (Ff1599).ext E1603
     have Vf1612 : Arv Z h1603 t1330 kt1330 .byte (3 : Int32) ((([(nar .char v294), (nar .char v297), (nar .char v300)] : List Int32).map (fun c => c.toInt8.toInt32)).map Value.int) (.int 0) := (Vf1600).ext E1603
     have Ef1613 : Exa Z h1603 b1591 own_GU := (A1591).ext E1603
     have Ff1614 : Fld Z h1603 b1591 own_GU "text" "Ljava/lang/String;" .null := (Ftext_b1591).ext E1603
     have Ff1615 : Fld Z h1603 b1591 own_GU "host" "Ljava/lang/String;" .null := (Fhost_b1591).ext E1603
     have Ff1616 : Fld Z h1603 b1591 own_GU "port" "Ljava/util/Optional;" .null := (Fport_b1591).ext E1603
     have Ff1617 : Fld Z h1603 b1591 own_GU "type" "Ljava/util/Optional;" .null := (Ftype_b1591).ext E1603
     have Ff1618 : Fld Z h1603 b1591 own_GU "selector" "Ljava/lang/String;" .null := (Fselector_b1591).ext E1603
     have Ff1619 : Fld Z h1603 b1591 own_GU "search" "Ljava/util/Optional;" .null := (Fsearch_b1591).ext E1603
     have Ff1620 : Fld Z h1603 b1591 own_GU "gopherPlus" "Ljava/util/Optional;" .null := (FgopherPlus_b1591).ext E1603
     have pre1621 : own_P p e below T1603 (mkF m 197 #[vI p0, vI p1, vI p2, vI p3, vI p4, vI v273, vI v279, vI v285, vI v291, vI v294, vI v297, vI v300, vI v303, vR b306, vR b1320, vR b1341, vR s_EMPTY, vR b1574, vR s_EMPTY, .unset, .unset] [(.ref a1603), (.ref b1591), (.ref b1591)]) s₁ (own_E m p0 p1 p2 p3 p4) := fun t k => pre1602 t (st1603 t k)
     obtain ⟨a1622, T1622, h1622, k1622, X1622, e1622, E1622, hS1622, hk1622, hZ1622, ho1622, hC1622, -, st1622⟩ := ldcOH (s := s) (vm0 := T1603.vm) X1603 hx hZ1603 ho1603 (own_w hw 38 rfl) (own_strW hw) e1603 hS1603 hk1603 hEL CR1603.1 (g := (mkF m 197 #[vI p0, vI p1, vI p2, vI p3, vI p4, vI v273, vI v279, vI v285, vI v291, vI v294, vI v297, vI v300, vI v303, vR b306, vR b1320, vR b1341, vR s_EMPTY, vR b1574, vR s_EMPTY, .unset, .unset] [(.ref a1603), (.ref b1591), (.ref b1591)])) rfl (hb hby at_197) (n := 4) (by decide) (by decide) (by decide) (by decide)
     have sf_b1320_1622 := CHr.safe hC1622 (Ef1609).lt sf_b1320_1603
     have CR1622 := CR1603.trans hC1622
     have Z1622 : n0 ≤ h1622.size := Nat.le_trans Z1603 E1622.1
     have K1622 : Keep h0 h1622 [] := K1603.ext E1622
     have Sf1623 : Sta Z h1622 "java/lang/String" "COMPACT_STRINGS" "Z" (.int gc1) := (Sf1604).ext E1622
     have Sf1624 : Sta Z h1622 "jdk/internal/util/Preconditions" "SIOOBE_FORMATTER" "Ljava/util/function/BiFunction;" gf3 := (Sf1605).ext E1622
     have Sf1625 : Sta Z h1622 "java/util/Optional" "EMPTY" "Ljava/util/Optional;" (.ref s_EMPTY) := (Sf1606).ext E1622
     have Ef1626 : Exa Z h1622 s_EMPTY "java/util/Optional" := (Ef1607).ext E1622
     have Ff1627 : Fld Z h1622 s_EMPTY "java/util/Optional" "value" "Ljava/lang/Object;" .null := (Ff1608).ext E1622
     have Ef1628 : Exa Z h1622 b1320 "java/lang/String" := (Ef1609).ext E1622
     have Ff1629 : Fld Z h1622 b1320 "java/lang/String" "coder" "B" (.int 0) := (Ff1610).ext E1622
     have Ff1630 : Fld Z h1622 b1320 "java/lang/String" "value" "[B" (.ref t1330) := (Ff1611).ext E1622
     have Vf1631 : Arv Z h1622 t1330 kt1330 .byte (3 : Int32) ((([(nar .char v294), (nar .char v297), (nar .char v300)] : List Int32).map (fun c => c.toInt8.toInt32)).map Value.int) (.int 0) := (Vf1612).ext E1622
     have Ef1632 : Exa Z h1622 b1591 own_GU := (Ef1613).ext E1622
     have Ff1633 : Fld Z h1622 b1591 own_GU "text" "Ljava/lang/String;" .null := (Ff1614).ext E1622
     have Ff1634 : Fld Z h1622 b1591 own_GU "host" "Ljava/lang/String;" .null := (Ff1615).ext E1622
     have Ff1635 : Fld Z h1622 b1591 own_GU "port" "Ljava/util/Optional;" .null := (Ff1616).ext E1622
     have Ff1636 : Fld Z h1622 b1591 own_GU "type" "Ljava/util/Optional;" .null := (Ff1617).ext E1622
     have Ff1637 : Fld Z h1622 b1591 own_GU "selector" "Ljava/lang/String;" .null := (Ff1618).ext E1622
     have Ff1638 : Fld Z h1622 b1591 own_GU "search" "Ljava/util/Optional;" .null := (Ff1619).ext E1622
     have Ff1639 : Fld Z h1622 b1591 own_GU "gopherPlus" "Ljava/util/Optional;" .null := (Ff1620).ext E1622
     have pre1640 : own_P p e below T1622 (mkF m 199 #[vI p0, vI p1, vI p2, vI p3, vI p4, vI v273, vI v279, vI v285, vI v291, vI v294, vI v297, vI v300, vI v303, vR b306, vR b1320, vR b1341, vR s_EMPTY, vR b1574, vR s_EMPTY, .unset, .unset] [(.ref a1622), (.ref a1603), (.ref b1591), (.ref b1591)]) s₁ (own_E m p0 p1 p2 p3 p4) := fun t k => pre1621 t (st1622 t k)
     have pre1641 : own_P p e below T1622 (mkF m 207 #[vI p0, vI p1, vI p2, vI p3, vI p4, vI v273, vI v279, vI v285, vI v291, vI v294, vI v297, vI v300, vI v303, vR b306, vR b1320, vR b1341, vR s_EMPTY, vR b1574, vR s_EMPTY, .unset, .unset] [(.ref b1574), (.ref b1341), (.ref s_EMPTY), (.ref s_EMPTY), (.ref a1622), (.ref a1603), (.ref b1591), (.ref b1591)]) s₁ (own_E m p0 p1 p2 p3 p4) := by
      intro t k
      refine pre1640 t ?_
      refine XS.aload X1622.here hx rfl (hb hby at_199) rfl rfl ?_
      refine XS.aload X1622.here hx rfl (hb hby at_201) rfl rfl ?_
      refine XS.aload X1622.here hx rfl (hb hby at_203) rfl rfl ?_
      refine XS.aload X1622.here hx rfl (hb hby at_205) rfl rfl ?_
      exact k
     obtain ⟨_, _, ⟨T1642, L1642, k1642, n1642⟩, -, X1642, ⟨Lc1642, hQ1642, l1642, y1642, z1642⟩, st1642⟩ := Jvm.LawKit.callS X1622 hx (y := (⟨"java/util/Optional", "empty", "()Ljava/util/Optional;"⟩ : MethodName)) ho1622 (mvT hZ1622 (own_w hw 27 rfl)) (mvT hZ1622 (own_w hw 28 rfl)) (mvT hZ1622 (own_w hw 29 rfl)) (mvT hZ1622 (own_w hw 30 rfl)) (by decide) (backOf (W := 8) (rm6 l Z ar0 hw [] s_EMPTY h1622 n0 Z1622 Sf1625) hZ1622 (own_w hw 30 rfl) (own_w hw 29 rfl) (by decide) (by decide)) (g := (mkF m 207 #[vI p0, vI p1, vI p2, vI p3, vI p4, vI v273, vI v279, vI v285, vI v291, vI v294, vI v297, vI v300, vI v303, vR b306, vR b1320, vR b1341, vR s_EMPTY, vR b1574, vR s_EMPTY, .unset, .unset] [(.ref b1574), (.ref b1341), (.ref s_EMPTY), (.ref s_EMPTY), (.ref a1622), (.ref a1603), (.ref b1591), (.ref b1591)])) rfl (by rw [hml]; rfl) (argsL := []) (rest := [(.ref b1574), (.ref b1341), (.ref s_EMPTY), (.ref s_EMPTY), (.ref a1622), (.ref a1603), (.ref b1591), (.ref b1591)]) (lenOf pd_9 rfl) rfl (by show 2 * 0 + _ ≤ _; exact Nat.le_of_eq rfl) (hb hby at_207) (fun _ _ => ⟨rfl, e1622, (by decide : 11 + 0 ≤ _), (by decide : 79 + 0 ≤ _)⟩)
     dsimp only [Pt.U, Pt.locs, Pt.cells, Pt.slots] at X1642 l1642 y1642 z1642 st1642 hQ1642
     subst l1642 y1642 z1642
     obtain ⟨rfl, N1642q, e1642⟩ := hQ1642
     have N1642 := Fr.app N1588 N1642q
     have pre1643 : own_P p e below T1642 (mkF m 210 #[vI p0, vI p1, vI p2, vI p3, vI p4, vI v273, vI v279, vI v285, vI v291, vI v294, vI v297, vI v300, vI v303, vR b306, vR b1320, vR b1341, vR s_EMPTY, vR b1574, vR s_EMPTY, .unset, .unset] [(.ref s_EMPTY), (.ref b1574), (.ref b1341), (.ref s_EMPTY), (.ref s_EMPTY), (.ref a1622), (.ref a1603), (.ref b1591), (.ref b1591)]) s₁ (own_E m p0 p1 p2 p3 p4) := fun t k => pre1641 t (st1642 t k)
     obtain ⟨_, _, ⟨T1644, L1644, k1644, n1644⟩, -, X1644r, hS1644r, hg1644r, ⟨Lc1644, hQ1644, l1644, y1644, z1644, hC1644⟩, st1644⟩ := X1642.specialBackS hx (y := (⟨own_GU, "<init>", "(Ljava/lang/String;Ljava/lang/String;Ljava/util/Optional;Ljava/util/Optional;Ljava/lang/String;Ljava/util/Optional;Ljava/util/Optional;)V"⟩ : MethodName)) rfl ho1622 (mvT hZ1622 (own_w hw 39 rfl)) (mvT hZ1622 (own_w hw 40 rfl)) (mvT hZ1622 (own_w hw 41 rfl)) (by decide) (backOfSH (W := 1) (rm7 l Z ar0 hw [] b1591 a1603 a1622 s_EMPTY s_EMPTY b1341 b1574 s_EMPTY .null .null .null .null .null .null .null h1622 n0 Z1622 Ef1632 Ff1633 Ff1634 Ff1635 Ff1636 Ff1637 Ff1638 Ff1639 g_b1591) hZ1622 (own_w hw 41 rfl) (own_w hw 34 rfl) (by decide) (by decide) hEL CR1622.1) (g := (mkF m 210 #[vI p0, vI p1, vI p2, vI p3, vI p4, vI v273, vI v279, vI v285, vI v291, vI v294, vI v297, vI v300, vI v303, vR b306, vR b1320, vR b1341, vR s_EMPTY, vR b1574, vR s_EMPTY, .unset, .unset] [(.ref s_EMPTY), (.ref b1574), (.ref b1341), (.ref s_EMPTY), (.ref s_EMPTY), (.ref a1622), (.ref a1603), (.ref b1591), (.ref b1591)])) rfl (by rw [hml]; rfl) (Steps.refl _) (a := b1591) (argsL := [(.ref a1603), (.ref a1622), (.ref s_EMPTY), (.ref s_EMPTY), (.ref b1341), (.ref b1574), (.ref s_EMPTY)]) (rest := [(.ref b1591)]) (lenOf pd_11 rfl) rfl (by show 2 * 0 + _ ≤ _; exact Nat.le_of_eq rfl) (hb hby at_210) (fun _ _ => ⟨rfl, e1642, (by decide : 11 + 14 ≤ _), (by decide : 79 + 188 ≤ _)⟩)
     dsimp only [Pt.U, Pt.locs, Pt.cells, Pt.slots] at X1644r hS1644r hg1644r l1644 y1644 z1644 st1644 hQ1644 hC1644
     subst l1644 y1644 z1644
     obtain ⟨X1644, hS1644, hZ1644, ho1644⟩ := rebS (s := s) (vm0 := T1622.vm) (n1 := T1642.heap.size) hS1622 (by rw [e1642]; first | exact hk1622 | exact Nat.le_refl _) X1644r hS1644r hg1644r hZ1622 ho1622
     obtain ⟨h1644, e1644⟩ : ∃ h, T1644.heap = h := ⟨_, rfl⟩
     rw [e1644] at hQ1644
     obtain ⟨rfl, N1644q, K1644q, Q1644_0, Q1644_1, Q1644_2, Q1644_3, Q1644_4, Q1644_5, Q1644_6, Q1644_7⟩ := hQ1644
     have N1644 := Fr.app N1642 N1644q
     have Z1644 : n0 ≤ h1644.size := Nat.le_trans Z1622 K1644q.1
     have K1644 : Keep h0 h1644 [] := K1622.trans K1644q (fun x hx => by cases List.mem_singleton.mp hx; exact Or.inr sz_b1591)
     have Sf1645 : Sta Z h1644 "java/lang/String" "COMPACT_STRINGS" "Z" (.int gc1) := own_sta_keep Sf1623 K1644q (own_ns1 (own_ns_exa Ef1632))
     have Sf1646 : Sta Z h1644 "jdk/internal/util/Preconditions" "SIOOBE_FORMATTER" "Ljava/util/function/BiFunction;" gf3 := own_sta_keep Sf1624 K1644q (own_ns1 (own_ns_exa Ef1632))
     have Sf1647 : Sta Z h1644 "java/util/Optional" "EMPTY" "Ljava/util/Optional;" (.ref s_EMPTY) := own_sta_keep Sf1625 K1644q (own_ns1 (own_ns_exa Ef1632))
     have Ef1648 : Exa Z h1644 s_EMPTY "java/util/Optional" := (Ef1626).keep K1644q
     have Ff1649 : Fld Z h1644 s_EMPTY "java/util/Optional" "value" "Ljava/lang/Object;" .null := (Ff1627).keep K1644q (fun q => absurd (List.mem_singleton.mp q) ne_s_EMPTY_b1591)
     have Ef1650 : Exa Z h1644 b1320 "java/lang/String" := (Ef1628).keep K1644q
     have Ff1651 : Fld Z h1644 b1320 "java/lang/String" "coder" "B" (.int 0) := (Ff1629).keep K1644q (fun q => absurd (List.mem_singleton.mp q) ne_b1320_b1591)
     have Ff1652 : Fld Z h1644 b1320 "java/lang/String" "value" "[B" (.ref t1330) := (Ff1630).keep K1644q (fun q => absurd (List.mem_singleton.mp q) ne_b1320_b1591)
     have Vf1653 : Arv Z h1644 t1330 kt1330 .byte (3 : Int32) ((([(nar .char v294), (nar .char v297), (nar .char v300)] : List Int32).map (fun c => c.toInt8.toInt32)).map Value.int) (.int 0) := (Vf1631).keep K1644q (fun q => absurd (List.mem_singleton.mp q) ne_t1330_b1591)
     have Ef1654 : Exa Z h1644 b1591 own_GU := (Ef1632).keep K1644q
     rw [e1644] at hC1644
     have CR1644 := CR1622.trans hC1644
     have hk1644 : T1644.heap.size ≤ h1644.size := by rw [e1644]; exact Nat.le_refl _
     have pre1655 : own_P p e below T1644 (mkF m 213 #[vI p0, vI p1, vI p2, vI p3, vI p4, vI v273, vI v279, vI v285, vI v291, vI v294, vI v297, vI v300, vI v303, vR b306, vR b1320, vR b1341, vR s_EMPTY, vR b1574, vR s_EMPTY, .unset, .unset] [(.ref b1591)]) s₁ (own_E m p0 p1 p2 p3 p4) := fun t k => pre1643 t (st1644.trans k)
     have pre1656 : own_P p e below T1644 (mkF m 217 #[vI p0, vI p1, vI p2, vI p3, vI p4, vI v273, vI v279, vI v285, vI v291, vI v294, vI v297, vI v300, vI v303, vR b306, vR b1320, vR b1341, vR s_EMPTY, vR b1574, vR s_EMPTY, vR b1591, .unset] [(.ref b1591)]) s₁ (own_E m p0 p1 p2 p3 p4) := by
      intro t k
      refine pre1655 t ?_
      refine XS.astore X1644.here hx rfl (hb hby at_213) rfl rfl (l' := #[vI p0, vI p1, vI p2, vI p3, vI p4, vI v273, vI v279, vI v285, vI v291, vI v294, vI v297, vI v300, vI v303, vR b306, vR b1320, vR b1341, vR s_EMPTY, vR b1574, vR s_EMPTY, vR b1591, .unset]) rfl ?_
      refine XS.aload X1644.here hx rfl (hb hby at_215) rfl rfl ?_
      exact k
     obtain ⟨cq1657, kq1657, q1657a, q1657b, q1657c⟩ := isOf hZ1644 e1644 Q1644_0
     obtain ⟨_, _, ⟨T1657, L1657, k1657, n1657⟩, -, X1657r, hS1657r, hg1657r, ⟨Lc1657, hQ1657, l1657, y1657, z1657, hC1657⟩, st1657⟩ := X1644.virtualBackS hx (y := (⟨own_GU, "effectiveType", "()Ljava/lang/String;"⟩ : MethodName)) (z := (⟨own_GU, "effectiveType", "()Ljava/lang/String;"⟩ : MethodName)) ho1644 (mvT hZ1644 (own_w hw 73 rfl)) (mvT hZ1644 (own_w hw 74 rfl)) (notFace_of_selects (args := #[]) (mvT hZ1644 (own_w hw 76 rfl))) (mvT hZ1644 (own_w hw 76 rfl)) (mvT hZ1644 (own_w hw 75 rfl)) (by decide) (backOfSH (W := 0) (rm10_n l Z ar0 hw [] b1591 s_EMPTY h1644 n0 Z1644 Q1644_0 Q1644_4 Ef1648 Ff1649) hZ1644 (own_w hw 77 rfl) (own_w hw 34 rfl) (by decide) (by decide) hEL CR1644.1) q1657a q1657c (g := (mkF m 217 #[vI p0, vI p1, vI p2, vI p3, vI p4, vI v273, vI v279, vI v285, vI v291, vI v294, vI v297, vI v300, vI v303, vR b306, vR b1320, vR b1341, vR s_EMPTY, vR b1574, vR s_EMPTY, vR b1591, .unset] [(.ref b1591)])) rfl (by rw [hml]; rfl) (Steps.refl _) (argsL := []) (rest := []) (lenOf pd_12 rfl) rfl (by show 2 * 0 + _ ≤ _; exact Nat.le_of_eq rfl) (hb hby at_217) (fun _ _ => ⟨rfl, e1644, (by decide : 25 + 2 ≤ _), (by decide : 267 + 8 ≤ _)⟩)
     dsimp only [Pt.U, Pt.locs, Pt.cells, Pt.slots] at X1657r hS1657r hg1657r l1657 y1657 z1657 st1657 hQ1657 hC1657
     subst l1657 y1657 z1657
     obtain ⟨X1657, hS1657, hZ1657, ho1657⟩ := rebS (s := s) (vm0 := T1644.vm) (n1 := T1644.heap.size) hS1644 (by rw [e1644]; first | exact hk1644 | exact Nat.le_refl _) X1657r hS1657r hg1657r hZ1644 ho1644
     obtain ⟨h1657, e1657⟩ : ∃ h, T1657.heap = h := ⟨_, rfl⟩
     rw [e1657] at hQ1657
     obtain ⟨b1657, b1657b, kb1657b, rfl, N1657q, K1657q, Ob1657_0, Ob1657_1, Ob1657_2, Ob1657b_0⟩ := hQ1657
     have N1657 := Fr.app N1644 N1657q
     have Z1657 : n0 ≤ h1657.size := Nat.le_trans Z1644 K1657q.1
     have K1657 : Keep h0 h1657 [] := K1644.trans K1657q (fun x hx => absurd hx List.not_mem_nil)
     have Sf1658 : Sta Z h1657 "java/lang/String" "COMPACT_STRINGS" "Z" (.int gc1) := own_sta_keep0 Sf1645 K1657q
     have Sf1659 : Sta Z h1657 "jdk/internal/util/Preconditions" "SIOOBE_FORMATTER" "Ljava/util/function/BiFunction;" gf3 := own_sta_keep0 Sf1646 K1657q
     have Sf1660 : Sta Z h1657 "java/util/Optional" "EMPTY" "Ljava/util/Optional;" (.ref s_EMPTY) := own_sta_keep0 Sf1647 K1657q
     have Ef1661 : Exa Z h1657 s_EMPTY "java/util/Optional" := (Ef1648).keep K1657q
     have Ff1662 : Fld Z h1657 s_EMPTY "java/util/Optional" "value" "Ljava/lang/Object;" .null := (Ff1649).keep K1657q List.not_mem_nil
     have Ef1663 : Exa Z h1657 b1320 "java/lang/String" := (Ef1650).keep K1657q
     have Ff1664 : Fld Z h1657 b1320 "java/lang/String" "coder" "B" (.int 0) := (Ff1651).keep K1657q List.not_mem_nil
     have Ff1665 : Fld Z h1657 b1320 "java/lang/String" "value" "[B" (.ref t1330) := (Ff1652).keep K1657q List.not_mem_nil
     have Vf1666 : Arv Z h1657 t1330 kt1330 .byte (3 : Int32) ((([(nar .char v294), (nar .char v297), (nar .char v300)] : List Int32).map (fun c => c.toInt8.toInt32)).map Value.int) (.int 0) := (Vf1653).keep K1657q List.not_mem_nil
     have Ef1667 : Exa Z h1657 b1591 own_GU := (Q1644_0).keep K1657q
     have Ff1668 : Fld Z h1657 b1591 own_GU "text" "Ljava/lang/String;" (.ref a1603) := (Q1644_1).keep K1657q List.not_mem_nil
     have Ff1669 : Fld Z h1657 b1591 own_GU "host" "Ljava/lang/String;" (.ref a1622) := (Q1644_2).keep K1657q List.not_mem_nil
     have Ff1670 : Fld Z h1657 b1591 own_GU "port" "Ljava/util/Optional;" (.ref s_EMPTY) := (Q1644_3).keep K1657q List.not_mem_nil
     have Ff1671 : Fld Z h1657 b1591 own_GU "type" "Ljava/util/Optional;" (.ref s_EMPTY) := (Q1644_4).keep K1657q List.not_mem_nil
     have Ff1672 : Fld Z h1657 b1591 own_GU "selector" "Ljava/lang/String;" (.ref b1341) := (Q1644_5).keep K1657q List.not_mem_nil
     have Ff1673 : Fld Z h1657 b1591 own_GU "search" "Ljava/util/Optional;" (.ref b1574) := (Q1644_6).keep K1657q List.not_mem_nil
     have Ff1674 : Fld Z h1657 b1591 own_GU "gopherPlus" "Ljava/util/Optional;" (.ref s_EMPTY) := (Q1644_7).keep K1657q List.not_mem_nil
     rw [e1657] at hC1657
     have CR1657 := CR1644.trans hC1657
     have hk1657 : T1657.heap.size ≤ h1657.size := by rw [e1657]; exact Nat.le_refl _
     have pre1675 : own_P p e below T1657 (mkF m 220 #[vI p0, vI p1, vI p2, vI p3, vI p4, vI v273, vI v279, vI v285, vI v291, vI v294, vI v297, vI v300, vI v303, vR b306, vR b1320, vR b1341, vR s_EMPTY, vR b1574, vR s_EMPTY, vR b1591, .unset] [(.ref b1657)]) s₁ (own_E m p0 p1 p2 p3 p4) := fun t k => pre1656 t (st1657.trans k)
     have pre1676 : own_P p e below T1657 (mkF m 244 #[vI p0, vI p1, vI p2, vI p3, vI p4, vI v273, vI v279, vI v285, vI v291, vI v294, vI v297, vI v300, vI v303, vR b306, vR b1320, vR b1341, vR s_EMPTY, vR b1574, vR s_EMPTY, vR b1591, vR b1657] [(.ref b1657)]) s₁ (own_E m p0 p1 p2 p3 p4) := by
      intro t k
      refine pre1675 t ?_
      refine XS.astore X1657.here hx rfl (hb hby at_220) rfl rfl (l' := #[vI p0, vI p1, vI p2, vI p3, vI p4, vI v273, vI v279, vI v285, vI v291, vI v294, vI v297, vI v300, vI v303, vR b306, vR b1320, vR b1341, vR s_EMPTY, vR b1574, vR s_EMPTY, vR b1591, vR b1657]) rfl ?_
      refine XS.aload X1657.here hx rfl (hb hby at_222) rfl rfl ?_
      refine XS.ifnonnullYes X1657.here hx rfl (pc0 := 224) (pc' := 229) rfl (hb hby at_224) rfl (by decide) (by decide) ?_
      refine XS.iload X1657.here hx rfl (hb hby at_229) rfl ?_
      refine XS.ifYes X1657.here hx rfl (pc0 := 231) (pc' := 242) rfl (hb hby at_231) rfl ((if0 _ _).trans (teq hc139_1355).1) (by decide) (by decide) ?_
      refine XS.aload X1657.here hx rfl (hb hby at_242) rfl rfl ?_
      exact k
     obtain ⟨cq1677, kq1677, q1677a, q1677b, q1677c⟩ := isOf hZ1657 e1657 Ob1657_0
     obtain ⟨_, _, ⟨T1677, L1677, k1677, n1677⟩, -, X1677, ⟨Lc1677, hQ1677, l1677, y1677, z1677⟩, st1677⟩ := X1657.virtualBack hx (y := (⟨"java/lang/String", "length", "()I"⟩ : MethodName)) (z := (⟨"java/lang/String", "length", "()I"⟩ : MethodName)) ho1657 (mvT hZ1657 (own_w hw 87 rfl)) (mvT hZ1657 (own_w hw 88 rfl)) (notFace_of_selects (args := #[]) (mvT hZ1657 (own_w hw 90 rfl))) (mvT hZ1657 (own_w hw 90 rfl)) (mvT hZ1657 (own_w hw 89 rfl)) (by decide) (StrChars.Road.lenW (W := 0) hZ1657 (own_wordsLen hw) (kI := 4) (own_w hw 11 rfl) Ob1657_0 Ob1657_2 Ob1657_1 Ob1657b_0 (own_hcdG (cs := [49]) (by decide)) (own_up [49] (by decide)) Sf1658 P5 (Nat.le_of_ble_eq_true rfl) (by decide) (by decide)) q1677a q1677c (g := (mkF m 244 #[vI p0, vI p1, vI p2, vI p3, vI p4, vI v273, vI v279, vI v285, vI v291, vI v294, vI v297, vI v300, vI v303, vR b306, vR b1320, vR b1341, vR s_EMPTY, vR b1574, vR s_EMPTY, vR b1591, vR b1657] [(.ref b1657)])) rfl (by rw [hml]; rfl) (Steps.refl _) (argsL := []) (rest := []) (lenOf pd_13 rfl) rfl (by show 2 * 0 + _ ≤ _; exact Nat.le_of_eq rfl) (hb hby at_244) (fun _ _ => ⟨rfl, e1657, (by decide : 27 + 0 ≤ _), (by decide : 275 + 0 ≤ _)⟩)
     dsimp only [Pt.U, Pt.locs, Pt.cells, Pt.slots] at X1677 l1677 y1677 z1677 st1677 hQ1677
     subst l1677 y1677 z1677
     obtain ⟨rfl, rfl, e1677⟩ := hQ1677
     try rw [List.append_nil] at X1677
     have pre1678 : own_P p e below T1677 (mkF m 247 #[vI p0, vI p1, vI p2, vI p3, vI p4, vI v273, vI v279, vI v285, vI v291, vI v294, vI v297, vI v300, vI v303, vR b306, vR b1320, vR b1341, vR s_EMPTY, vR b1574, vR s_EMPTY, vR b1591, vR b1657] [(.int (Int32.ofNat ([49] : List Int32).length))]) s₁ (own_E m p0 p1 p2 p3 p4) := fun t k => pre1676 t (st1677.trans k)
     have pre1679 : own_P p e below T1677 (mkF m 248 #[vI p0, vI p1, vI p2, vI p3, vI p4, vI v273, vI v279, vI v285, vI v291, vI v294, vI v297, vI v300, vI v303, vR b306, vR b1320, vR b1341, vR s_EMPTY, vR b1574, vR s_EMPTY, vR b1591, vR b1657] [(.int 1), (.int (Int32.ofNat ([49] : List Int32).length))]) s₁ (own_E m p0 p1 p2 p3 p4) := by
      intro t k
      refine pre1678 t ?_
      refine XS.iconst X1677.here hx rfl (hb hby at_247) ?_
      exact k
     have hk1680 : (Int32.ofNat ([49] : List Int32).length) = (1 : Int32) := (by decide)
     have pre1681 : own_P p e below T1677 (mkF m 254 #[vI p0, vI p1, vI p2, vI p3, vI p4, vI v273, vI v279, vI v285, vI v291, vI v294, vI v297, vI v300, vI v303, vR b306, vR b1320, vR b1341, vR s_EMPTY, vR b1574, vR s_EMPTY, vR b1591, vR b1657] [(.int 0), (.ref b1657)]) s₁ (own_E m p0 p1 p2 p3 p4) := by
      intro t k
      refine pre1679 t ?_
      refine XS.icmpNo X1677.here hx rfl (hb hby at_248) rfl (teq hk1680).2 ?_
      refine XS.aload X1677.here hx rfl (hb hby at_251) rfl rfl ?_
      refine XS.iconst X1677.here hx rfl (hb hby at_253) ?_
      exact k
     obtain ⟨cq1682, kq1682, q1682a, q1682b, q1682c⟩ := isOf hZ1657 e1677 Ob1657_0
     obtain ⟨_, _, ⟨T1682, L1682, k1682, n1682⟩, -, X1682, ⟨Lc1682, hQ1682, l1682, y1682, z1682⟩, st1682⟩ := X1677.virtualBack hx (y := (⟨"java/lang/String", "charAt", "(I)C"⟩ : MethodName)) (z := (⟨"java/lang/String", "charAt", "(I)C"⟩ : MethodName)) ho1657 (mvT hZ1657 (own_w hw 97 rfl)) (mvT hZ1657 (own_w hw 98 rfl)) (notFace_of_selects (args := #[]) (mvT hZ1657 (own_w hw 100 rfl))) (mvT hZ1657 (own_w hw 100 rfl)) (mvT hZ1657 (own_w hw 99 rfl)) (by decide) (StrChars.Road.chN (W := 0) hZ1657 (own_wordsChN hw) (kI := 4) (own_w hw 11 rfl) Ob1657_0 Ob1657_2 Ob1657_1 Ob1657b_0 (own_hcdG (cs := [49]) (by decide)) (own_up [49] (by decide)) Sf1658 P5 Sf1659 rG3 (Nat.le_of_ble_eq_true rfl) (i := 0) (by decide) (j := (0 : Int32)) rfl (by decide) (by decide)) q1682a q1682c (g := (mkF m 254 #[vI p0, vI p1, vI p2, vI p3, vI p4, vI v273, vI v279, vI v285, vI v291, vI v294, vI v297, vI v300, vI v303, vR b306, vR b1320, vR b1341, vR s_EMPTY, vR b1574, vR s_EMPTY, vR b1591, vR b1657] [(.int 0), (.ref b1657)])) rfl (by rw [hml]; rfl) (Steps.refl _) (argsL := [(.int 0)]) (rest := []) (lenOf pd_14 rfl) rfl (by show 2 * 0 + _ ≤ _; exact Nat.le_of_eq rfl) (hb hby at_254) (fun _ _ => ⟨rfl, e1677, (by decide : 27 + 0 ≤ _), (by decide : 275 + 0 ≤ _)⟩)
     dsimp only [Pt.U, Pt.locs, Pt.cells, Pt.slots] at X1682 l1682 y1682 z1682 st1682 hQ1682
     subst l1682 y1682 z1682
     obtain ⟨rfl, rfl, e1682⟩ := hQ1682
     try rw [List.append_nil] at X1682
     have pre1683 : own_P p e below T1682 (mkF m 257 #[vI p0, vI p1, vI p2, vI p3, vI p4, vI v273, vI v279, vI v285, vI v291, vI v294, vI v297, vI v300, vI v303, vR b306, vR b1320, vR b1341, vR s_EMPTY, vR b1574, vR s_EMPTY, vR b1591, vR b1657] [(.int (([49] : List Int32).getD 0 0))]) s₁ (own_E m p0 p1 p2 p3 p4) := fun t k => pre1681 t (st1682.trans k)
     have pre1684 : own_P p e below T1682 (mkF m 259 #[vI p0, vI p1, vI p2, vI p3, vI p4, vI v273, vI v279, vI v285, vI v291, vI v294, vI v297, vI v300, vI v303, vR b306, vR b1320, vR b1341, vR s_EMPTY, vR b1574, vR s_EMPTY, vR b1591, vR b1657] [(.int 49), (.int (([49] : List Int32).getD 0 0))]) s₁ (own_E m p0 p1 p2 p3 p4) := by
      intro t k
      refine pre1683 t ?_
      refine XS.bipush X1682.here hx rfl (hb hby at_257) ?_
      exact k
     have hk1685 : (([49] : List Int32).getD 0 0) = (49 : Int32) := (by decide)
     obtain ⟨fs, hr, hrun, hended, hRW⟩ := X1682.leaveW (s := s) (vm₁ := T1657.vm) hS1657 (by rw [e1682]; first | exact hk1657 | exact Nat.le_refl _) (v := some (.int 1)) (fun h => by rw [Bd.returns] at h; cases h)
     refine ⟨_, _, pre1684 _ ?_, hrun, hended, _, _, rfl, ?_, hRW.1, hRW.2.1, hRW.2.2.1, hRW.2.2.2.mono (by decide) (by decide)⟩
     ·
      refine XS.icmpNo X1682.here hx rfl (hb hby at_259) rfl (teq hk1685).2 ?_
      refine XS.iconst X1682.here hx rfl (hb hby at_262) ?_
      refine XS.goto X1682.here hx rfl (pc0 := 263) (pc' := 267) rfl (hb hby at_263) (by decide) (by decide) ?_
      exact retN X1682 hx (t := .boolean) Bd.returns (by simp) (hb hby at_267) hr
     ·
      show Q0 Z p0 p1 p2 p3 p4 gc1 gf3 s_EMPTY h0 n0 _ T1682.heap _
      rw [e1682]
      exact ⟨rfl, N1657⟩
    ·
     have pre1686 : ∀ t, Steps p.tables e below (T1574.setTop (mkF m 180 #[vI p0, vI p1, vI p2, vI p3, vI p4, vI v273, vI v279, vI v285, vI v291, vI v294, vI v297, vI v300, vI v303, vR b306, vR b1320, vR b1341, vR s_EMPTY, vR b1574, .unset, .unset, .unset] [(.ref b1341)])) t → Steps p.tables e below (s₁.setTop (own_E m p0 p1 p2 p3 p4)) t := by
      intro t k
      refine pre1585 t ?_
      refine XS.ifNo X1574.here hx rfl (hb hby at_175) rfl ((if0 _ _).trans (feq hc175_1586).1) ?_
      refine XS.aload X1574.here hx rfl (hb hby at_178) rfl rfl ?_
      exact k
     obtain ⟨_, _, ⟨T1687, L1687, k1687, n1687⟩, -, X1687, ⟨Lc1687, hQ1687, l1687, y1687, z1687⟩, st1687⟩ := Jvm.LawKit.callS X1574 hx (y := (⟨"java/util/Optional", "of", "(Ljava/lang/Object;)Ljava/util/Optional;"⟩ : MethodName)) hown (mvT hZ (own_w hw 135 rfl)) (mvT hZ (own_w hw 136 rfl)) (mvT hZ (own_w hw 29 rfl)) (mvT hZ (own_w hw 137 rfl)) (by decide) (backOf (W := 0) (rm24 l Z ar0 hw [] b1341 h1574 n0 Z1574) hZ (own_w hw 137 rfl) (own_w hw 29 rfl) (by decide) (by decide)) (g := (mkF m 180 #[vI p0, vI p1, vI p2, vI p3, vI p4, vI v273, vI v279, vI v285, vI v291, vI v294, vI v297, vI v300, vI v303, vR b306, vR b1320, vR b1341, vR s_EMPTY, vR b1574, .unset, .unset, .unset] [(.ref b1341)])) rfl (by rw [hml]; rfl) (argsL := [(.ref b1341)]) (rest := []) (lenOf pd_10 rfl) rfl (by show 2 * 0 + _ ≤ _; exact Nat.le_of_eq rfl) (hb hby at_180) (fun _ _ => ⟨rfl, e1574, (by decide : 6 + 1 ≤ _), (by decide : 16 + 1 ≤ _)⟩)
     dsimp only [Pt.U, Pt.locs, Pt.cells, Pt.slots] at X1687 l1687 y1687 z1687 st1687 hQ1687
     subst l1687 y1687 z1687
     obtain ⟨h1687, e1687⟩ : ∃ h, T1687.heap = h := ⟨_, rfl⟩
     rw [e1687] at hQ1687
     obtain ⟨b1687, rfl, N1687q, K1687q, y_b1687, Ob1687_0, Ob1687_1⟩ := hQ1687
     have N1687 := Fr.app N1574 N1687q
     have ne_s_EMPTY_b1687 : s_EMPTY ≠ b1687 := Nat.ne_of_lt (Nat.lt_of_lt_of_le (Ef1578).lt y_b1687)
     have ne_b1320_b1687 : b1320 ≠ b1687 := Nat.ne_of_lt (Nat.lt_of_lt_of_le (Ef1580).lt y_b1687)
     have ne_t1330_b1687 : t1330 ≠ b1687 := Nat.ne_of_lt (Nat.lt_of_lt_of_le (Vf1583).lt y_b1687)
     have g_b1687 : n0 ≤ b1687 := Nat.le_trans Z1574 y_b1687
     have sz_b1687 : h0.size ≤ b1687 := Nat.le_trans K1574.1 y_b1687
     have Z1687 : n0 ≤ h1687.size := Nat.le_trans Z1574 K1687q.1
     have hk1687 := Nat.le_trans hk1574 K1687q.1
     have K1687 : Keep h0 h1687 [] := K1574.trans K1687q (fun x hx => absurd hx List.not_mem_nil)
     have sf_b1320_1687 := Safe.keep K1687q sf0 CR1574.1 sf_b1320_1574
     have CR1687 := CR1574.trans (CHr.keep K1687q sf0 CR1574.1)
     have Sf1688 : Sta Z h1687 "java/lang/String" "COMPACT_STRINGS" "Z" (.int gc1) := own_sta_keep0 Sf1575 K1687q
     have Sf1689 : Sta Z h1687 "jdk/internal/util/Preconditions" "SIOOBE_FORMATTER" "Ljava/util/function/BiFunction;" gf3 := own_sta_keep0 Sf1576 K1687q
     have Sf1690 : Sta Z h1687 "java/util/Optional" "EMPTY" "Ljava/util/Optional;" (.ref s_EMPTY) := own_sta_keep0 Sf1577 K1687q
     have Ef1691 : Exa Z h1687 s_EMPTY "java/util/Optional" := (Ef1578).keep K1687q
     have Ff1692 : Fld Z h1687 s_EMPTY "java/util/Optional" "value" "Ljava/lang/Object;" .null := (Ff1579).keep K1687q List.not_mem_nil
     have Ef1693 : Exa Z h1687 b1320 "java/lang/String" := (Ef1580).keep K1687q
     have Ff1694 : Fld Z h1687 b1320 "java/lang/String" "coder" "B" (.int 0) := (Ff1581).keep K1687q List.not_mem_nil
     have Ff1695 : Fld Z h1687 b1320 "java/lang/String" "value" "[B" (.ref t1330) := (Ff1582).keep K1687q List.not_mem_nil
     have Vf1696 : Arv Z h1687 t1330 kt1330 .byte (3 : Int32) ((([(nar .char v294), (nar .char v297), (nar .char v300)] : List Int32).map (fun c => c.toInt8.toInt32)).map Value.int) (.int 0) := (Vf1583).keep K1687q List.not_mem_nil
     have pre1697 : own_P p e below T1687 (mkF m 183 #[vI p0, vI p1, vI p2, vI p3, vI p4, vI v273, vI v279, vI v285, vI v291, vI v294, vI v297, vI v300, vI v303, vR b306, vR b1320, vR b1341, vR s_EMPTY, vR b1574, .unset, .unset, .unset] [(.ref b1687)]) s₁ (own_E m p0 p1 p2 p3 p4) := fun t k => pre1686 t (st1687 t k)
     have pre1698 : own_P p e below T1687 (mkF m 191 #[vI p0, vI p1, vI p2, vI p3, vI p4, vI v273, vI v279, vI v285, vI v291, vI v294, vI v297, vI v300, vI v303, vR b306, vR b1320, vR b1341, vR s_EMPTY, vR b1574, vR b1687, .unset, .unset] []) s₁ (own_E m p0 p1 p2 p3 p4) := by
      intro t k
      refine pre1697 t ?_
      refine XS.goto X1687.here hx rfl (pc0 := 183) (pc' := 189) rfl (hb hby at_183) (by decide) (by decide) ?_
      refine XS.astore X1687.here hx rfl (hb hby at_189) rfl rfl (l' := #[vI p0, vI p1, vI p2, vI p3, vI p4, vI v273, vI v279, vI v285, vI v291, vI v294, vI v297, vI v300, vI v303, vR b306, vR b1320, vR b1341, vR s_EMPTY, vR b1574, vR b1687, .unset, .unset]) rfl ?_
      exact k
     obtain ⟨T1699, h1699, X1699, e1699, E1699, A1699, D1699, -, st1699⟩ := newO X1687 hx hZ hown (own_w hw 32 rfl) (own_w hw 33 rfl) (own_w hw 34 rfl) e1687 (g := (mkF m 191 #[vI p0, vI p1, vI p2, vI p3, vI p4, vI v273, vI v279, vI v285, vI v291, vI v294, vI v297, vI v300, vI v303, vR b306, vR b1320, vR b1341, vR s_EMPTY, vR b1574, vR b1687, .unset, .unset] [])) rfl (hb hby at_191) (by decide) (by decide)
     obtain ⟨b1699, g1699⟩ : ∃ z, z = h1687.size := ⟨_, rfl⟩
     rw [← g1699] at A1699 D1699 st1699
     have ne_s_EMPTY_b1699 : s_EMPTY ≠ b1699 := Nat.ne_of_lt (Nat.lt_of_lt_of_le (Ef1691).lt (Nat.le_of_eq g1699.symm))
     have ne_b1320_b1699 : b1320 ≠ b1699 := Nat.ne_of_lt (Nat.lt_of_lt_of_le (Ef1693).lt (Nat.le_of_eq g1699.symm))
     have ne_t1330_b1699 : t1330 ≠ b1699 := Nat.ne_of_lt (Nat.lt_of_lt_of_le (Vf1696).lt (Nat.le_of_eq g1699.symm))
     have g_b1699 : n0 ≤ b1699 := Nat.le_trans Z1687 (Nat.le_of_eq g1699.symm)
     have sz_b1699 : h0.size ≤ b1699 := Nat.le_trans K1687.1 (Nat.le_of_eq g1699.symm)
     have Z1699 : n0 ≤ h1699.size := Nat.le_trans Z1687 E1699.1
     have K1699 : Keep h0 h1699 [] := K1687.ext E1699
     have hk1699 := Nat.le_trans hk1687 E1699.1
     have sf_b1320_1699 := Safe.ext E1699 CR1687.1 sf_b1320_1687
     have CR1699 := CR1687.trans (CHr.ext E1699 CR1687.1)
     have Sf1700 : Sta Z h1699 "java/lang/String" "COMPACT_STRINGS" "Z" (.int gc1) := (Sf1688).ext E1699
     have Sf1701 : Sta Z h1699 "jdk/internal/util/Preconditions" "SIOOBE_FORMATTER" "Ljava/util/function/BiFunction;" gf3 := (Sf1689).ext E1699
     have Sf1702 : Sta Z h1699 "java/util/Optional" "EMPTY" "Ljava/util/Optional;" (.ref s_EMPTY) := (Sf1690).ext E1699
     have Ef1703 : Exa Z h1699 s_EMPTY "java/util/Optional" := (Ef1691).ext E1699
     have Ff1704 : Fld Z h1699 s_EMPTY "java/util/Optional" "value" "Ljava/lang/Object;" .null := (Ff1692).ext E1699
     have Ef1705 : Exa Z h1699 b1320 "java/lang/String" := (Ef1693).ext E1699
     have Ff1706 : Fld Z h1699 b1320 "java/lang/String" "coder" "B" (.int 0) := (Ff1694).ext E1699
     have Ff1707 : Fld Z h1699 b1320 "java/lang/String" "value" "[B" (.ref t1330) := (Ff1695).ext E1699
     have Vf1708 : Arv Z h1699 t1330 kt1330 .byte (3 : Int32) ((([(nar .char v294), (nar .char v297), (nar .char v300)] : List Int32).map (fun c => c.toInt8.toInt32)).map Value.int) (.int 0) := (Vf1696).ext E1699
     have Ftext_b1699 : Fld Z h1699 b1699 own_GU "text" "Ljava/lang/String;" .null := D1699 (Or.inr (own_w hw 60 rfl)) (ty := (.object "java/lang/String")) (by decide)
     have Fhost_b1699 : Fld Z h1699 b1699 own_GU "host" "Ljava/lang/String;" .null := D1699 (Or.inr (own_w hw 62 rfl)) (ty := (.object "java/lang/String")) (by decide)
     have Fport_b1699 : Fld Z h1699 b1699 own_GU "port" "Ljava/util/Optional;" .null := D1699 (Or.inr (own_w hw 64 rfl)) (ty := (.object "java/util/Optional")) (by decide)
     have Ftype_b1699 : Fld Z h1699 b1699 own_GU "type" "Ljava/util/Optional;" .null := D1699 (Or.inr (own_w hw 66 rfl)) (ty := (.object "java/util/Optional")) (by decide)
     have Fselector_b1699 : Fld Z h1699 b1699 own_GU "selector" "Ljava/lang/String;" .null := D1699 (Or.inr (own_w hw 68 rfl)) (ty := (.object "java/lang/String")) (by decide)
     have Fsearch_b1699 : Fld Z h1699 b1699 own_GU "search" "Ljava/util/Optional;" .null := D1699 (Or.inr (own_w hw 70 rfl)) (ty := (.object "java/util/Optional")) (by decide)
     have FgopherPlus_b1699 : Fld Z h1699 b1699 own_GU "gopherPlus" "Ljava/util/Optional;" .null := D1699 (Or.inr (own_w hw 72 rfl)) (ty := (.object "java/util/Optional")) (by decide)
     have pre1709 : own_P p e below T1699 (mkF m 194 #[vI p0, vI p1, vI p2, vI p3, vI p4, vI v273, vI v279, vI v285, vI v291, vI v294, vI v297, vI v300, vI v303, vR b306, vR b1320, vR b1341, vR s_EMPTY, vR b1574, vR b1687, .unset, .unset] [(.ref b1699)]) s₁ (own_E m p0 p1 p2 p3 p4) := fun t k => pre1698 t (st1699 t k)
     have pre1710 : own_P p e below T1699 (mkF m 195 #[vI p0, vI p1, vI p2, vI p3, vI p4, vI v273, vI v279, vI v285, vI v291, vI v294, vI v297, vI v300, vI v303, vR b306, vR b1320, vR b1341, vR s_EMPTY, vR b1574, vR b1687, .unset, .unset] [(.ref b1699), (.ref b1699)]) s₁ (own_E m p0 p1 p2 p3 p4) := by
      intro t k
      refine pre1709 t ?_
      refine XS.dup X1699.here hx rfl (hb hby at_194) rfl rfl ?_
      exact k
     obtain ⟨a1711, T1711, h1711, k1711, X1711, e1711, E1711, hS1711, hk1711, hZ1711, ho1711, hC1711, -, st1711⟩ := ldcOH (s := s) (vm0 := s.vm) X1699 hx hZ hown (own_w hw 35 rfl) (own_strW hw) e1699 hS0 hk1699 hEL CR1699.1 (g := (mkF m 195 #[vI p0, vI p1, vI p2, vI p3, vI p4, vI v273, vI v279, vI v285, vI v291, vI v294, vI v297, vI v300, vI v303, vR b306, vR b1320, vR b1341, vR s_EMPTY, vR b1574, vR b1687, .unset, .unset] [(.ref b1699), (.ref b1699)])) rfl (hb hby at_195) (n := 44) (by decide) (by decide) (by decide) (by decide)
     have sf_b1320_1711 := CHr.safe hC1711 (Ef1705).lt sf_b1320_1699
     have CR1711 := CR1699.trans hC1711
     have Z1711 : n0 ≤ h1711.size := Nat.le_trans Z1699 E1711.1
     have K1711 : Keep h0 h1711 [] := K1699.ext E1711
     have Sf1712 : Sta Z h1711 "java/lang/String" "COMPACT_STRINGS" "Z" (.int gc1) := (Sf1700).ext E1711
     have Sf1713 : Sta Z h1711 "jdk/internal/util/Preconditions" "SIOOBE_FORMATTER" "Ljava/util/function/BiFunction;" gf3 := (Sf1701).ext E1711
     have Sf1714 : Sta Z h1711 "java/util/Optional" "EMPTY" "Ljava/util/Optional;" (.ref s_EMPTY) := (Sf1702).ext E1711
     have Ef1715 : Exa Z h1711 s_EMPTY "java/util/Optional" := (Ef1703).ext E1711
     have Ff1716 : Fld Z h1711 s_EMPTY "java/util/Optional" "value" "Ljava/lang/Object;" .null := (Ff1704).ext E1711
     have Ef1717 : Exa Z h1711 b1320 "java/lang/String" := (Ef1705).ext E1711
     have Ff1718 : Fld Z h1711 b1320 "java/lang/String" "coder" "B" (.int 0) := (Ff1706).ext E1711
     have Ff1719 : Fld Z h1711 b1320 "java/lang/String" "value" "[B" (.ref t1330) := (Ff1707).ext E1711
     have Vf1720 : Arv Z h1711 t1330 kt1330 .byte (3 : Int32) ((([(nar .char v294), (nar .char v297), (nar .char v300)] : List Int32).map (fun c => c.toInt8.toInt32)).map Value.int) (.int 0) := (Vf1708).ext E1711
     have Ef1721 : Exa Z h1711 b1699 own_GU := (A1699).ext E1711
     have Ff1722 : Fld Z h1711 b1699 own_GU "text" "Ljava/lang/String;" .null := (Ftext_b1699).ext E1711
     have Ff1723 : Fld Z h1711 b1699 own_GU "host" "Ljava/lang/String;" .null := (Fhost_b1699).ext E1711
     have Ff1724 : Fld Z h1711 b1699 own_GU "port" "Ljava/util/Optional;" .null := (Fport_b1699).ext E1711
     have Ff1725 : Fld Z h1711 b1699 own_GU "type" "Ljava/util/Optional;" .null := (Ftype_b1699).ext E1711
     have Ff1726 : Fld Z h1711 b1699 own_GU "selector" "Ljava/lang/String;" .null := (Fselector_b1699).ext E1711
     have Ff1727 : Fld Z h1711 b1699 own_GU "search" "Ljava/util/Optional;" .null := (Fsearch_b1699).ext E1711
     have Ff1728 : Fld Z h1711 b1699 own_GU "gopherPlus" "Ljava/util/Optional;" .null := (FgopherPlus_b1699).ext E1711
     have pre1729 : own_P p e below T1711 (mkF m 197 #[vI p0, vI p1, vI p2, vI p3, vI p4, vI v273, vI v279, vI v285, vI v291, vI v294, vI v297, vI v300, vI v303, vR b306, vR b1320, vR b1341, vR s_EMPTY, vR b1574, vR b1687, .unset, .unset] [(.ref a1711), (.ref b1699), (.ref b1699)]) s₁ (own_E m p0 p1 p2 p3 p4) := fun t k => pre1710 t (st1711 t k)
     obtain ⟨a1730, T1730, h1730, k1730, X1730, e1730, E1730, hS1730, hk1730, hZ1730, ho1730, hC1730, -, st1730⟩ := ldcOH (s := s) (vm0 := T1711.vm) X1711 hx hZ1711 ho1711 (own_w hw 38 rfl) (own_strW hw) e1711 hS1711 hk1711 hEL CR1711.1 (g := (mkF m 197 #[vI p0, vI p1, vI p2, vI p3, vI p4, vI v273, vI v279, vI v285, vI v291, vI v294, vI v297, vI v300, vI v303, vR b306, vR b1320, vR b1341, vR s_EMPTY, vR b1574, vR b1687, .unset, .unset] [(.ref a1711), (.ref b1699), (.ref b1699)])) rfl (hb hby at_197) (n := 4) (by decide) (by decide) (by decide) (by decide)
     have sf_b1320_1730 := CHr.safe hC1730 (Ef1717).lt sf_b1320_1711
     have CR1730 := CR1711.trans hC1730
     have Z1730 : n0 ≤ h1730.size := Nat.le_trans Z1711 E1730.1
     have K1730 : Keep h0 h1730 [] := K1711.ext E1730
     have Sf1731 : Sta Z h1730 "java/lang/String" "COMPACT_STRINGS" "Z" (.int gc1) := (Sf1712).ext E1730
     have Sf1732 : Sta Z h1730 "jdk/internal/util/Preconditions" "SIOOBE_FORMATTER" "Ljava/util/function/BiFunction;" gf3 := (Sf1713).ext E1730
     have Sf1733 : Sta Z h1730 "java/util/Optional" "EMPTY" "Ljava/util/Optional;" (.ref s_EMPTY) := (Sf1714).ext E1730
     have Ef1734 : Exa Z h1730 s_EMPTY "java/util/Optional" := (Ef1715).ext E1730
     have Ff1735 : Fld Z h1730 s_EMPTY "java/util/Optional" "value" "Ljava/lang/Object;" .null := (Ff1716).ext E1730
     have Ef1736 : Exa Z h1730 b1320 "java/lang/String" := (Ef1717).ext E1730
     have Ff1737 : Fld Z h1730 b1320 "java/lang/String" "coder" "B" (.int 0) := (Ff1718).ext E1730
     have Ff1738 : Fld Z h1730 b1320 "java/lang/String" "value" "[B" (.ref t1330) := (Ff1719).ext E1730
     have Vf1739 : Arv Z h1730 t1330 kt1330 .byte (3 : Int32) ((([(nar .char v294), (nar .char v297), (nar .char v300)] : List Int32).map (fun c => c.toInt8.toInt32)).map Value.int) (.int 0) := (Vf1720).ext E1730
     have Ef1740 : Exa Z h1730 b1699 own_GU := (Ef1721).ext E1730
     have Ff1741 : Fld Z h1730 b1699 own_GU "text" "Ljava/lang/String;" .null := (Ff1722).ext E1730
     have Ff1742 : Fld Z h1730 b1699 own_GU "host" "Ljava/lang/String;" .null := (Ff1723).ext E1730
     have Ff1743 : Fld Z h1730 b1699 own_GU "port" "Ljava/util/Optional;" .null := (Ff1724).ext E1730
     have Ff1744 : Fld Z h1730 b1699 own_GU "type" "Ljava/util/Optional;" .null := (Ff1725).ext E1730
     have Ff1745 : Fld Z h1730 b1699 own_GU "selector" "Ljava/lang/String;" .null := (Ff1726).ext E1730
     have Ff1746 : Fld Z h1730 b1699 own_GU "search" "Ljava/util/Optional;" .null := (Ff1727).ext E1730
     have Ff1747 : Fld Z h1730 b1699 own_GU "gopherPlus" "Ljava/util/Optional;" .null := (Ff1728).ext E1730
     have pre1748 : own_P p e below T1730 (mkF m 199 #[vI p0, vI p1, vI p2, vI p3, vI p4, vI v273, vI v279, vI v285, vI v291, vI v294, vI v297, vI v300, vI v303, vR b306, vR b1320, vR b1341, vR s_EMPTY, vR b1574, vR b1687, .unset, .unset] [(.ref a1730), (.ref a1711), (.ref b1699), (.ref b1699)]) s₁ (own_E m p0 p1 p2 p3 p4) := fun t k => pre1729 t (st1730 t k)
     have pre1749 : own_P p e below T1730 (mkF m 207 #[vI p0, vI p1, vI p2, vI p3, vI p4, vI v273, vI v279, vI v285, vI v291, vI v294, vI v297, vI v300, vI v303, vR b306, vR b1320, vR b1341, vR s_EMPTY, vR b1574, vR b1687, .unset, .unset] [(.ref b1574), (.ref b1341), (.ref s_EMPTY), (.ref b1687), (.ref a1730), (.ref a1711), (.ref b1699), (.ref b1699)]) s₁ (own_E m p0 p1 p2 p3 p4) := by
      intro t k
      refine pre1748 t ?_
      refine XS.aload X1730.here hx rfl (hb hby at_199) rfl rfl ?_
      refine XS.aload X1730.here hx rfl (hb hby at_201) rfl rfl ?_
      refine XS.aload X1730.here hx rfl (hb hby at_203) rfl rfl ?_
      refine XS.aload X1730.here hx rfl (hb hby at_205) rfl rfl ?_
      exact k
     obtain ⟨_, _, ⟨T1750, L1750, k1750, n1750⟩, -, X1750, ⟨Lc1750, hQ1750, l1750, y1750, z1750⟩, st1750⟩ := Jvm.LawKit.callS X1730 hx (y := (⟨"java/util/Optional", "empty", "()Ljava/util/Optional;"⟩ : MethodName)) ho1730 (mvT hZ1730 (own_w hw 27 rfl)) (mvT hZ1730 (own_w hw 28 rfl)) (mvT hZ1730 (own_w hw 29 rfl)) (mvT hZ1730 (own_w hw 30 rfl)) (by decide) (backOf (W := 8) (rm6 l Z ar0 hw [] s_EMPTY h1730 n0 Z1730 Sf1733) hZ1730 (own_w hw 30 rfl) (own_w hw 29 rfl) (by decide) (by decide)) (g := (mkF m 207 #[vI p0, vI p1, vI p2, vI p3, vI p4, vI v273, vI v279, vI v285, vI v291, vI v294, vI v297, vI v300, vI v303, vR b306, vR b1320, vR b1341, vR s_EMPTY, vR b1574, vR b1687, .unset, .unset] [(.ref b1574), (.ref b1341), (.ref s_EMPTY), (.ref b1687), (.ref a1730), (.ref a1711), (.ref b1699), (.ref b1699)])) rfl (by rw [hml]; rfl) (argsL := []) (rest := [(.ref b1574), (.ref b1341), (.ref s_EMPTY), (.ref b1687), (.ref a1730), (.ref a1711), (.ref b1699), (.ref b1699)]) (lenOf pd_9 rfl) rfl (by show 2 * 0 + _ ≤ _; exact Nat.le_of_eq rfl) (hb hby at_207) (fun _ _ => ⟨rfl, e1730, (by decide : 12 + 0 ≤ _), (by decide : 80 + 0 ≤ _)⟩)
     dsimp only [Pt.U, Pt.locs, Pt.cells, Pt.slots] at X1750 l1750 y1750 z1750 st1750 hQ1750
     subst l1750 y1750 z1750
     obtain ⟨rfl, N1750q, e1750⟩ := hQ1750
     have N1750 := Fr.app N1687 N1750q
     have pre1751 : own_P p e below T1750 (mkF m 210 #[vI p0, vI p1, vI p2, vI p3, vI p4, vI v273, vI v279, vI v285, vI v291, vI v294, vI v297, vI v300, vI v303, vR b306, vR b1320, vR b1341, vR s_EMPTY, vR b1574, vR b1687, .unset, .unset] [(.ref s_EMPTY), (.ref b1574), (.ref b1341), (.ref s_EMPTY), (.ref b1687), (.ref a1730), (.ref a1711), (.ref b1699), (.ref b1699)]) s₁ (own_E m p0 p1 p2 p3 p4) := fun t k => pre1749 t (st1750 t k)
     obtain ⟨_, _, ⟨T1752, L1752, k1752, n1752⟩, -, X1752r, hS1752r, hg1752r, ⟨Lc1752, hQ1752, l1752, y1752, z1752, hC1752⟩, st1752⟩ := X1750.specialBackS hx (y := (⟨own_GU, "<init>", "(Ljava/lang/String;Ljava/lang/String;Ljava/util/Optional;Ljava/util/Optional;Ljava/lang/String;Ljava/util/Optional;Ljava/util/Optional;)V"⟩ : MethodName)) rfl ho1730 (mvT hZ1730 (own_w hw 39 rfl)) (mvT hZ1730 (own_w hw 40 rfl)) (mvT hZ1730 (own_w hw 41 rfl)) (by decide) (backOfSH (W := 1) (rm7 l Z ar0 hw [] b1699 a1711 a1730 b1687 s_EMPTY b1341 b1574 s_EMPTY .null .null .null .null .null .null .null h1730 n0 Z1730 Ef1740 Ff1741 Ff1742 Ff1743 Ff1744 Ff1745 Ff1746 Ff1747 g_b1699) hZ1730 (own_w hw 41 rfl) (own_w hw 34 rfl) (by decide) (by decide) hEL CR1730.1) (g := (mkF m 210 #[vI p0, vI p1, vI p2, vI p3, vI p4, vI v273, vI v279, vI v285, vI v291, vI v294, vI v297, vI v300, vI v303, vR b306, vR b1320, vR b1341, vR s_EMPTY, vR b1574, vR b1687, .unset, .unset] [(.ref s_EMPTY), (.ref b1574), (.ref b1341), (.ref s_EMPTY), (.ref b1687), (.ref a1730), (.ref a1711), (.ref b1699), (.ref b1699)])) rfl (by rw [hml]; rfl) (Steps.refl _) (a := b1699) (argsL := [(.ref a1711), (.ref a1730), (.ref b1687), (.ref s_EMPTY), (.ref b1341), (.ref b1574), (.ref s_EMPTY)]) (rest := [(.ref b1699)]) (lenOf pd_11 rfl) rfl (by show 2 * 0 + _ ≤ _; exact Nat.le_of_eq rfl) (hb hby at_210) (fun _ _ => ⟨rfl, e1750, (by decide : 12 + 14 ≤ _), (by decide : 80 + 188 ≤ _)⟩)
     dsimp only [Pt.U, Pt.locs, Pt.cells, Pt.slots] at X1752r hS1752r hg1752r l1752 y1752 z1752 st1752 hQ1752 hC1752
     subst l1752 y1752 z1752
     obtain ⟨X1752, hS1752, hZ1752, ho1752⟩ := rebS (s := s) (vm0 := T1730.vm) (n1 := T1750.heap.size) hS1730 (by rw [e1750]; first | exact hk1730 | exact Nat.le_refl _) X1752r hS1752r hg1752r hZ1730 ho1730
     obtain ⟨h1752, e1752⟩ : ∃ h, T1752.heap = h := ⟨_, rfl⟩
     rw [e1752] at hQ1752
     obtain ⟨rfl, N1752q, K1752q, Q1752_0, Q1752_1, Q1752_2, Q1752_3, Q1752_4, Q1752_5, Q1752_6, Q1752_7⟩ := hQ1752
     have N1752 := Fr.app N1750 N1752q
     have Z1752 : n0 ≤ h1752.size := Nat.le_trans Z1730 K1752q.1
     have K1752 : Keep h0 h1752 [] := K1730.trans K1752q (fun x hx => by cases List.mem_singleton.mp hx; exact Or.inr sz_b1699)
     have Sf1753 : Sta Z h1752 "java/lang/String" "COMPACT_STRINGS" "Z" (.int gc1) := own_sta_keep Sf1731 K1752q (own_ns1 (own_ns_exa Ef1740))
     have Sf1754 : Sta Z h1752 "jdk/internal/util/Preconditions" "SIOOBE_FORMATTER" "Ljava/util/function/BiFunction;" gf3 := own_sta_keep Sf1732 K1752q (own_ns1 (own_ns_exa Ef1740))
     have Sf1755 : Sta Z h1752 "java/util/Optional" "EMPTY" "Ljava/util/Optional;" (.ref s_EMPTY) := own_sta_keep Sf1733 K1752q (own_ns1 (own_ns_exa Ef1740))
     have Ef1756 : Exa Z h1752 s_EMPTY "java/util/Optional" := (Ef1734).keep K1752q
     have Ff1757 : Fld Z h1752 s_EMPTY "java/util/Optional" "value" "Ljava/lang/Object;" .null := (Ff1735).keep K1752q (fun q => absurd (List.mem_singleton.mp q) ne_s_EMPTY_b1699)
     have Ef1758 : Exa Z h1752 b1320 "java/lang/String" := (Ef1736).keep K1752q
     have Ff1759 : Fld Z h1752 b1320 "java/lang/String" "coder" "B" (.int 0) := (Ff1737).keep K1752q (fun q => absurd (List.mem_singleton.mp q) ne_b1320_b1699)
     have Ff1760 : Fld Z h1752 b1320 "java/lang/String" "value" "[B" (.ref t1330) := (Ff1738).keep K1752q (fun q => absurd (List.mem_singleton.mp q) ne_b1320_b1699)
     have Vf1761 : Arv Z h1752 t1330 kt1330 .byte (3 : Int32) ((([(nar .char v294), (nar .char v297), (nar .char v300)] : List Int32).map (fun c => c.toInt8.toInt32)).map Value.int) (.int 0) := (Vf1739).keep K1752q (fun q => absurd (List.mem_singleton.mp q) ne_t1330_b1699)
     have Ef1762 : Exa Z h1752 b1699 own_GU := (Ef1740).keep K1752q
     rw [e1752] at hC1752
     have CR1752 := CR1730.trans hC1752
     have hk1752 : T1752.heap.size ≤ h1752.size := by rw [e1752]; exact Nat.le_refl _
     have pre1763 : own_P p e below T1752 (mkF m 213 #[vI p0, vI p1, vI p2, vI p3, vI p4, vI v273, vI v279, vI v285, vI v291, vI v294, vI v297, vI v300, vI v303, vR b306, vR b1320, vR b1341, vR s_EMPTY, vR b1574, vR b1687, .unset, .unset] [(.ref b1699)]) s₁ (own_E m p0 p1 p2 p3 p4) := fun t k => pre1751 t (st1752.trans k)
     have pre1764 : own_P p e below T1752 (mkF m 217 #[vI p0, vI p1, vI p2, vI p3, vI p4, vI v273, vI v279, vI v285, vI v291, vI v294, vI v297, vI v300, vI v303, vR b306, vR b1320, vR b1341, vR s_EMPTY, vR b1574, vR b1687, vR b1699, .unset] [(.ref b1699)]) s₁ (own_E m p0 p1 p2 p3 p4) := by
      intro t k
      refine pre1763 t ?_
      refine XS.astore X1752.here hx rfl (hb hby at_213) rfl rfl (l' := #[vI p0, vI p1, vI p2, vI p3, vI p4, vI v273, vI v279, vI v285, vI v291, vI v294, vI v297, vI v300, vI v303, vR b306, vR b1320, vR b1341, vR s_EMPTY, vR b1574, vR b1687, vR b1699, .unset]) rfl ?_
      refine XS.aload X1752.here hx rfl (hb hby at_215) rfl rfl ?_
      exact k
     obtain ⟨cq1765, kq1765, q1765a, q1765b, q1765c⟩ := isOf hZ1752 e1752 Q1752_0
     obtain ⟨_, _, ⟨T1765, L1765, k1765, n1765⟩, -, X1765r, hS1765r, hg1765r, ⟨Lc1765, hQ1765, l1765, y1765, z1765, hC1765⟩, st1765⟩ := X1752.virtualBackS hx (y := (⟨own_GU, "effectiveType", "()Ljava/lang/String;"⟩ : MethodName)) (z := (⟨own_GU, "effectiveType", "()Ljava/lang/String;"⟩ : MethodName)) ho1752 (mvT hZ1752 (own_w hw 73 rfl)) (mvT hZ1752 (own_w hw 74 rfl)) (notFace_of_selects (args := #[]) (mvT hZ1752 (own_w hw 76 rfl))) (mvT hZ1752 (own_w hw 76 rfl)) (mvT hZ1752 (own_w hw 75 rfl)) (by decide) (backOfSH (W := 0) (rm10_n l Z ar0 hw [] b1699 s_EMPTY h1752 n0 Z1752 Q1752_0 Q1752_4 Ef1756 Ff1757) hZ1752 (own_w hw 77 rfl) (own_w hw 34 rfl) (by decide) (by decide) hEL CR1752.1) q1765a q1765c (g := (mkF m 217 #[vI p0, vI p1, vI p2, vI p3, vI p4, vI v273, vI v279, vI v285, vI v291, vI v294, vI v297, vI v300, vI v303, vR b306, vR b1320, vR b1341, vR s_EMPTY, vR b1574, vR b1687, vR b1699, .unset] [(.ref b1699)])) rfl (by rw [hml]; rfl) (Steps.refl _) (argsL := []) (rest := []) (lenOf pd_12 rfl) rfl (by show 2 * 0 + _ ≤ _; exact Nat.le_of_eq rfl) (hb hby at_217) (fun _ _ => ⟨rfl, e1752, (by decide : 26 + 2 ≤ _), (by decide : 268 + 8 ≤ _)⟩)
     dsimp only [Pt.U, Pt.locs, Pt.cells, Pt.slots] at X1765r hS1765r hg1765r l1765 y1765 z1765 st1765 hQ1765 hC1765
     subst l1765 y1765 z1765
     obtain ⟨X1765, hS1765, hZ1765, ho1765⟩ := rebS (s := s) (vm0 := T1752.vm) (n1 := T1752.heap.size) hS1752 (by rw [e1752]; first | exact hk1752 | exact Nat.le_refl _) X1765r hS1765r hg1765r hZ1752 ho1752
     obtain ⟨h1765, e1765⟩ : ∃ h, T1765.heap = h := ⟨_, rfl⟩
     rw [e1765] at hQ1765
     obtain ⟨b1765, b1765b, kb1765b, rfl, N1765q, K1765q, Ob1765_0, Ob1765_1, Ob1765_2, Ob1765b_0⟩ := hQ1765
     have N1765 := Fr.app N1752 N1765q
     have Z1765 : n0 ≤ h1765.size := Nat.le_trans Z1752 K1765q.1
     have K1765 : Keep h0 h1765 [] := K1752.trans K1765q (fun x hx => absurd hx List.not_mem_nil)
     have Sf1766 : Sta Z h1765 "java/lang/String" "COMPACT_STRINGS" "Z" (.int gc1) := own_sta_keep0 Sf1753 K1765q
     have Sf1767 : Sta Z h1765 "jdk/internal/util/Preconditions" "SIOOBE_FORMATTER" "Ljava/util/function/BiFunction;" gf3 := own_sta_keep0 Sf1754 K1765q
     have Sf1768 : Sta Z h1765 "java/util/Optional" "EMPTY" "Ljava/util/Optional;" (.ref s_EMPTY) := own_sta_keep0 Sf1755 K1765q
     have Ef1769 : Exa Z h1765 s_EMPTY "java/util/Optional" := (Ef1756).keep K1765q
     have Ff1770 : Fld Z h1765 s_EMPTY "java/util/Optional" "value" "Ljava/lang/Object;" .null := (Ff1757).keep K1765q List.not_mem_nil
     have Ef1771 : Exa Z h1765 b1320 "java/lang/String" := (Ef1758).keep K1765q
     have Ff1772 : Fld Z h1765 b1320 "java/lang/String" "coder" "B" (.int 0) := (Ff1759).keep K1765q List.not_mem_nil
     have Ff1773 : Fld Z h1765 b1320 "java/lang/String" "value" "[B" (.ref t1330) := (Ff1760).keep K1765q List.not_mem_nil
     have Vf1774 : Arv Z h1765 t1330 kt1330 .byte (3 : Int32) ((([(nar .char v294), (nar .char v297), (nar .char v300)] : List Int32).map (fun c => c.toInt8.toInt32)).map Value.int) (.int 0) := (Vf1761).keep K1765q List.not_mem_nil
     have Ef1775 : Exa Z h1765 b1699 own_GU := (Q1752_0).keep K1765q
     have Ff1776 : Fld Z h1765 b1699 own_GU "text" "Ljava/lang/String;" (.ref a1711) := (Q1752_1).keep K1765q List.not_mem_nil
     have Ff1777 : Fld Z h1765 b1699 own_GU "host" "Ljava/lang/String;" (.ref a1730) := (Q1752_2).keep K1765q List.not_mem_nil
     have Ff1778 : Fld Z h1765 b1699 own_GU "port" "Ljava/util/Optional;" (.ref b1687) := (Q1752_3).keep K1765q List.not_mem_nil
     have Ff1779 : Fld Z h1765 b1699 own_GU "type" "Ljava/util/Optional;" (.ref s_EMPTY) := (Q1752_4).keep K1765q List.not_mem_nil
     have Ff1780 : Fld Z h1765 b1699 own_GU "selector" "Ljava/lang/String;" (.ref b1341) := (Q1752_5).keep K1765q List.not_mem_nil
     have Ff1781 : Fld Z h1765 b1699 own_GU "search" "Ljava/util/Optional;" (.ref b1574) := (Q1752_6).keep K1765q List.not_mem_nil
     have Ff1782 : Fld Z h1765 b1699 own_GU "gopherPlus" "Ljava/util/Optional;" (.ref s_EMPTY) := (Q1752_7).keep K1765q List.not_mem_nil
     rw [e1765] at hC1765
     have CR1765 := CR1752.trans hC1765
     have hk1765 : T1765.heap.size ≤ h1765.size := by rw [e1765]; exact Nat.le_refl _
     have pre1783 : own_P p e below T1765 (mkF m 220 #[vI p0, vI p1, vI p2, vI p3, vI p4, vI v273, vI v279, vI v285, vI v291, vI v294, vI v297, vI v300, vI v303, vR b306, vR b1320, vR b1341, vR s_EMPTY, vR b1574, vR b1687, vR b1699, .unset] [(.ref b1765)]) s₁ (own_E m p0 p1 p2 p3 p4) := fun t k => pre1764 t (st1765.trans k)
     have pre1784 : own_P p e below T1765 (mkF m 244 #[vI p0, vI p1, vI p2, vI p3, vI p4, vI v273, vI v279, vI v285, vI v291, vI v294, vI v297, vI v300, vI v303, vR b306, vR b1320, vR b1341, vR s_EMPTY, vR b1574, vR b1687, vR b1699, vR b1765] [(.ref b1765)]) s₁ (own_E m p0 p1 p2 p3 p4) := by
      intro t k
      refine pre1783 t ?_
      refine XS.astore X1765.here hx rfl (hb hby at_220) rfl rfl (l' := #[vI p0, vI p1, vI p2, vI p3, vI p4, vI v273, vI v279, vI v285, vI v291, vI v294, vI v297, vI v300, vI v303, vR b306, vR b1320, vR b1341, vR s_EMPTY, vR b1574, vR b1687, vR b1699, vR b1765]) rfl ?_
      refine XS.aload X1765.here hx rfl (hb hby at_222) rfl rfl ?_
      refine XS.ifnonnullYes X1765.here hx rfl (pc0 := 224) (pc' := 229) rfl (hb hby at_224) rfl (by decide) (by decide) ?_
      refine XS.iload X1765.here hx rfl (hb hby at_229) rfl ?_
      refine XS.ifYes X1765.here hx rfl (pc0 := 231) (pc' := 242) rfl (hb hby at_231) rfl ((if0 _ _).trans (teq hc139_1355).1) (by decide) (by decide) ?_
      refine XS.aload X1765.here hx rfl (hb hby at_242) rfl rfl ?_
      exact k
     obtain ⟨cq1785, kq1785, q1785a, q1785b, q1785c⟩ := isOf hZ1765 e1765 Ob1765_0
     obtain ⟨_, _, ⟨T1785, L1785, k1785, n1785⟩, -, X1785, ⟨Lc1785, hQ1785, l1785, y1785, z1785⟩, st1785⟩ := X1765.virtualBack hx (y := (⟨"java/lang/String", "length", "()I"⟩ : MethodName)) (z := (⟨"java/lang/String", "length", "()I"⟩ : MethodName)) ho1765 (mvT hZ1765 (own_w hw 87 rfl)) (mvT hZ1765 (own_w hw 88 rfl)) (notFace_of_selects (args := #[]) (mvT hZ1765 (own_w hw 90 rfl))) (mvT hZ1765 (own_w hw 90 rfl)) (mvT hZ1765 (own_w hw 89 rfl)) (by decide) (StrChars.Road.lenW (W := 0) hZ1765 (own_wordsLen hw) (kI := 4) (own_w hw 11 rfl) Ob1765_0 Ob1765_2 Ob1765_1 Ob1765b_0 (own_hcdG (cs := [49]) (by decide)) (own_up [49] (by decide)) Sf1766 P5 (Nat.le_of_ble_eq_true rfl) (by decide) (by decide)) q1785a q1785c (g := (mkF m 244 #[vI p0, vI p1, vI p2, vI p3, vI p4, vI v273, vI v279, vI v285, vI v291, vI v294, vI v297, vI v300, vI v303, vR b306, vR b1320, vR b1341, vR s_EMPTY, vR b1574, vR b1687, vR b1699, vR b1765] [(.ref b1765)])) rfl (by rw [hml]; rfl) (Steps.refl _) (argsL := []) (rest := []) (lenOf pd_13 rfl) rfl (by show 2 * 0 + _ ≤ _; exact Nat.le_of_eq rfl) (hb hby at_244) (fun _ _ => ⟨rfl, e1765, (by decide : 28 + 0 ≤ _), (by decide : 276 + 0 ≤ _)⟩)
     dsimp only [Pt.U, Pt.locs, Pt.cells, Pt.slots] at X1785 l1785 y1785 z1785 st1785 hQ1785
     subst l1785 y1785 z1785
     obtain ⟨rfl, rfl, e1785⟩ := hQ1785
     try rw [List.append_nil] at X1785
     have pre1786 : own_P p e below T1785 (mkF m 247 #[vI p0, vI p1, vI p2, vI p3, vI p4, vI v273, vI v279, vI v285, vI v291, vI v294, vI v297, vI v300, vI v303, vR b306, vR b1320, vR b1341, vR s_EMPTY, vR b1574, vR b1687, vR b1699, vR b1765] [(.int (Int32.ofNat ([49] : List Int32).length))]) s₁ (own_E m p0 p1 p2 p3 p4) := fun t k => pre1784 t (st1785.trans k)
     have pre1787 : own_P p e below T1785 (mkF m 248 #[vI p0, vI p1, vI p2, vI p3, vI p4, vI v273, vI v279, vI v285, vI v291, vI v294, vI v297, vI v300, vI v303, vR b306, vR b1320, vR b1341, vR s_EMPTY, vR b1574, vR b1687, vR b1699, vR b1765] [(.int 1), (.int (Int32.ofNat ([49] : List Int32).length))]) s₁ (own_E m p0 p1 p2 p3 p4) := by
      intro t k
      refine pre1786 t ?_
      refine XS.iconst X1785.here hx rfl (hb hby at_247) ?_
      exact k
     have hk1788 : (Int32.ofNat ([49] : List Int32).length) = (1 : Int32) := (by decide)
     have pre1789 : own_P p e below T1785 (mkF m 254 #[vI p0, vI p1, vI p2, vI p3, vI p4, vI v273, vI v279, vI v285, vI v291, vI v294, vI v297, vI v300, vI v303, vR b306, vR b1320, vR b1341, vR s_EMPTY, vR b1574, vR b1687, vR b1699, vR b1765] [(.int 0), (.ref b1765)]) s₁ (own_E m p0 p1 p2 p3 p4) := by
      intro t k
      refine pre1787 t ?_
      refine XS.icmpNo X1785.here hx rfl (hb hby at_248) rfl (teq hk1788).2 ?_
      refine XS.aload X1785.here hx rfl (hb hby at_251) rfl rfl ?_
      refine XS.iconst X1785.here hx rfl (hb hby at_253) ?_
      exact k
     obtain ⟨cq1790, kq1790, q1790a, q1790b, q1790c⟩ := isOf hZ1765 e1785 Ob1765_0
     obtain ⟨_, _, ⟨T1790, L1790, k1790, n1790⟩, -, X1790, ⟨Lc1790, hQ1790, l1790, y1790, z1790⟩, st1790⟩ := X1785.virtualBack hx (y := (⟨"java/lang/String", "charAt", "(I)C"⟩ : MethodName)) (z := (⟨"java/lang/String", "charAt", "(I)C"⟩ : MethodName)) ho1765 (mvT hZ1765 (own_w hw 97 rfl)) (mvT hZ1765 (own_w hw 98 rfl)) (notFace_of_selects (args := #[]) (mvT hZ1765 (own_w hw 100 rfl))) (mvT hZ1765 (own_w hw 100 rfl)) (mvT hZ1765 (own_w hw 99 rfl)) (by decide) (StrChars.Road.chN (W := 0) hZ1765 (own_wordsChN hw) (kI := 4) (own_w hw 11 rfl) Ob1765_0 Ob1765_2 Ob1765_1 Ob1765b_0 (own_hcdG (cs := [49]) (by decide)) (own_up [49] (by decide)) Sf1766 P5 Sf1767 rG3 (Nat.le_of_ble_eq_true rfl) (i := 0) (by decide) (j := (0 : Int32)) rfl (by decide) (by decide)) q1790a q1790c (g := (mkF m 254 #[vI p0, vI p1, vI p2, vI p3, vI p4, vI v273, vI v279, vI v285, vI v291, vI v294, vI v297, vI v300, vI v303, vR b306, vR b1320, vR b1341, vR s_EMPTY, vR b1574, vR b1687, vR b1699, vR b1765] [(.int 0), (.ref b1765)])) rfl (by rw [hml]; rfl) (Steps.refl _) (argsL := [(.int 0)]) (rest := []) (lenOf pd_14 rfl) rfl (by show 2 * 0 + _ ≤ _; exact Nat.le_of_eq rfl) (hb hby at_254) (fun _ _ => ⟨rfl, e1785, (by decide : 28 + 0 ≤ _), (by decide : 276 + 0 ≤ _)⟩)
     dsimp only [Pt.U, Pt.locs, Pt.cells, Pt.slots] at X1790 l1790 y1790 z1790 st1790 hQ1790
     subst l1790 y1790 z1790
     obtain ⟨rfl, rfl, e1790⟩ := hQ1790
     try rw [List.append_nil] at X1790
     have pre1791 : own_P p e below T1790 (mkF m 257 #[vI p0, vI p1, vI p2, vI p3, vI p4, vI v273, vI v279, vI v285, vI v291, vI v294, vI v297, vI v300, vI v303, vR b306, vR b1320, vR b1341, vR s_EMPTY, vR b1574, vR b1687, vR b1699, vR b1765] [(.int (([49] : List Int32).getD 0 0))]) s₁ (own_E m p0 p1 p2 p3 p4) := fun t k => pre1789 t (st1790.trans k)
     have pre1792 : own_P p e below T1790 (mkF m 259 #[vI p0, vI p1, vI p2, vI p3, vI p4, vI v273, vI v279, vI v285, vI v291, vI v294, vI v297, vI v300, vI v303, vR b306, vR b1320, vR b1341, vR s_EMPTY, vR b1574, vR b1687, vR b1699, vR b1765] [(.int 49), (.int (([49] : List Int32).getD 0 0))]) s₁ (own_E m p0 p1 p2 p3 p4) := by
      intro t k
      refine pre1791 t ?_
      refine XS.bipush X1790.here hx rfl (hb hby at_257) ?_
      exact k
     have hk1793 : (([49] : List Int32).getD 0 0) = (49 : Int32) := (by decide)
     obtain ⟨fs, hr, hrun, hended, hRW⟩ := X1790.leaveW (s := s) (vm₁ := T1765.vm) hS1765 (by rw [e1790]; first | exact hk1765 | exact Nat.le_refl _) (v := some (.int 1)) (fun h => by rw [Bd.returns] at h; cases h)
     refine ⟨_, _, pre1792 _ ?_, hrun, hended, _, _, rfl, ?_, hRW.1, hRW.2.1, hRW.2.2.1, hRW.2.2.2.mono (by decide) (by decide)⟩
     ·
      refine XS.icmpNo X1790.here hx rfl (hb hby at_259) rfl (teq hk1793).2 ?_
      refine XS.iconst X1790.here hx rfl (hb hby at_262) ?_
      refine XS.goto X1790.here hx rfl (pc0 := 263) (pc' := 267) rfl (hb hby at_263) (by decide) (by decide) ?_
      exact retN X1790 hx (t := .boolean) Bd.returns (by simp) (hb hby at_267) hr
     ·
      show Q0 Z p0 p1 p2 p3 p4 gc1 gf3 s_EMPTY h0 n0 _ T1790.heap _
      rw [e1790]
      exact ⟨rfl, N1765⟩
  ·
   have pre1794 : ∀ t, Steps p.tables e below (T1341.setTop (mkF m 144 #[vI p0, vI p1, vI p2, vI p3, vI p4, vI v273, vI v279, vI v285, vI v291, vI v294, vI v297, vI v300, vI v303, vR b306, vR b1320, vR b1341, .unset, .unset, .unset, .unset, .unset] [(.ref b1320)])) t → Steps p.tables e below (s₁.setTop (own_E m p0 p1 p2 p3 p4)) t := by
    intro t k
    refine pre1354 t ?_
    refine XS.ifNo X1341.here hx rfl (hb hby at_139) rfl ((if0 _ _).trans (feq hc139_1355).1) ?_
    refine XS.aload X1341.here hx rfl (hb hby at_142) rfl rfl ?_
    exact k
   obtain ⟨_, _, ⟨T1795, L1795, k1795, n1795⟩, -, X1795, ⟨Lc1795, hQ1795, l1795, y1795, z1795⟩, st1795⟩ := Jvm.LawKit.callS X1341 hx (y := (⟨"java/util/Optional", "of", "(Ljava/lang/Object;)Ljava/util/Optional;"⟩ : MethodName)) hown (mvT hZ (own_w hw 135 rfl)) (mvT hZ (own_w hw 136 rfl)) (mvT hZ (own_w hw 29 rfl)) (mvT hZ (own_w hw 137 rfl)) (by decide) (backOf (W := 0) (rm24 l Z ar0 hw [] b1320 h1341 n0 Z1341) hZ (own_w hw 137 rfl) (own_w hw 29 rfl) (by decide) (by decide)) (g := (mkF m 144 #[vI p0, vI p1, vI p2, vI p3, vI p4, vI v273, vI v279, vI v285, vI v291, vI v294, vI v297, vI v300, vI v303, vR b306, vR b1320, vR b1341, .unset, .unset, .unset, .unset, .unset] [(.ref b1320)])) rfl (by rw [hml]; rfl) (argsL := [(.ref b1320)]) (rest := []) (lenOf pd_10 rfl) rfl (by show 2 * 0 + _ ≤ _; exact Nat.le_of_eq rfl) (hb hby at_144) (fun _ _ => ⟨rfl, e1341, (by decide : 5 + 1 ≤ _), (by decide : 15 + 1 ≤ _)⟩)
   dsimp only [Pt.U, Pt.locs, Pt.cells, Pt.slots] at X1795 l1795 y1795 z1795 st1795 hQ1795
   subst l1795 y1795 z1795
   obtain ⟨h1795, e1795⟩ : ∃ h, T1795.heap = h := ⟨_, rfl⟩
   rw [e1795] at hQ1795
   obtain ⟨b1795, rfl, N1795q, K1795q, y_b1795, Ob1795_0, Ob1795_1⟩ := hQ1795
   have N1795 := Fr.app N1341 N1795q
   have ne_s_EMPTY_b1795 : s_EMPTY ≠ b1795 := Nat.ne_of_lt (Nat.lt_of_lt_of_le (Ef1345).lt y_b1795)
   have ne_b1320_b1795 : b1320 ≠ b1795 := Nat.ne_of_lt (Nat.lt_of_lt_of_le (Ef1349).lt y_b1795)
   have ne_t1330_b1795 : t1330 ≠ b1795 := Nat.ne_of_lt (Nat.lt_of_lt_of_le (Vf1352).lt y_b1795)
   have g_b1795 : n0 ≤ b1795 := Nat.le_trans Z1341 y_b1795
   have sz_b1795 : h0.size ≤ b1795 := Nat.le_trans K1341.1 y_b1795
   have Z1795 : n0 ≤ h1795.size := Nat.le_trans Z1341 K1795q.1
   have hk1795 := Nat.le_trans hk1341 K1795q.1
   have K1795 : Keep h0 h1795 [] := K1341.trans K1795q (fun x hx => absurd hx List.not_mem_nil)
   have sf_b1320_1795 := Safe.keep K1795q sf0 CR1341.1 sf_b1320_1341
   have CR1795 := CR1341.trans (CHr.keep K1795q sf0 CR1341.1)
   have Sf1796 : Sta Z h1795 "java/lang/String" "COMPACT_STRINGS" "Z" (.int gc1) := own_sta_keep0 Sf1342 K1795q
   have Sf1797 : Sta Z h1795 "jdk/internal/util/Preconditions" "SIOOBE_FORMATTER" "Ljava/util/function/BiFunction;" gf3 := own_sta_keep0 Sf1343 K1795q
   have Sf1798 : Sta Z h1795 "java/util/Optional" "EMPTY" "Ljava/util/Optional;" (.ref s_EMPTY) := own_sta_keep0 Sf1344 K1795q
   have Ef1799 : Exa Z h1795 s_EMPTY "java/util/Optional" := (Ef1345).keep K1795q
   have Ff1800 : Fld Z h1795 s_EMPTY "java/util/Optional" "value" "Ljava/lang/Object;" .null := (Ff1346).keep K1795q List.not_mem_nil
   have Ef1801 : Exa Z h1795 b1320 "java/lang/String" := (Ef1349).keep K1795q
   have Ff1802 : Fld Z h1795 b1320 "java/lang/String" "coder" "B" (.int 0) := (Ff1350).keep K1795q List.not_mem_nil
   have Ff1803 : Fld Z h1795 b1320 "java/lang/String" "value" "[B" (.ref t1330) := (Ff1351).keep K1795q List.not_mem_nil
   have Vf1804 : Arv Z h1795 t1330 kt1330 .byte (3 : Int32) ((([(nar .char v294), (nar .char v297), (nar .char v300)] : List Int32).map (fun c => c.toInt8.toInt32)).map Value.int) (.int 0) := (Vf1352).keep K1795q List.not_mem_nil
   have pre1805 : own_P p e below T1795 (mkF m 147 #[vI p0, vI p1, vI p2, vI p3, vI p4, vI v273, vI v279, vI v285, vI v291, vI v294, vI v297, vI v300, vI v303, vR b306, vR b1320, vR b1341, .unset, .unset, .unset, .unset, .unset] [(.ref b1795)]) s₁ (own_E m p0 p1 p2 p3 p4) := fun t k => pre1794 t (st1795 t k)
   have pre1806 : own_P p e below T1795 (mkF m 157 #[vI p0, vI p1, vI p2, vI p3, vI p4, vI v273, vI v279, vI v285, vI v291, vI v294, vI v297, vI v300, vI v303, vR b306, vR b1320, vR b1341, vR b1795, .unset, .unset, .unset, .unset] [(.int v285)]) s₁ (own_E m p0 p1 p2 p3 p4) := by
    intro t k
    refine pre1805 t ?_
    refine XS.goto X1795.here hx rfl (pc0 := 147) (pc' := 153) rfl (hb hby at_147) (by decide) (by decide) ?_
    refine XS.astore X1795.here hx rfl (hb hby at_153) rfl rfl (l' := #[vI p0, vI p1, vI p2, vI p3, vI p4, vI v273, vI v279, vI v285, vI v291, vI v294, vI v297, vI v300, vI v303, vR b306, vR b1320, vR b1341, vR b1795, .unset, .unset, .unset, .unset]) rfl ?_
    refine XS.iload X1795.here hx rfl (hb hby at_155) rfl ?_
    exact k
   by_cases hc157_1807 : v285 = (0 : Int32)
   ·
    have pre1808 : ∀ t, Steps p.tables e below (T1795.setTop (mkF m 168 #[vI p0, vI p1, vI p2, vI p3, vI p4, vI v273, vI v279, vI v285, vI v291, vI v294, vI v297, vI v300, vI v303, vR b306, vR b1320, vR b1341, vR b1795, .unset, .unset, .unset, .unset] [])) t → Steps p.tables e below (s₁.setTop (own_E m p0 p1 p2 p3 p4)) t := by
     intro t k
     refine pre1806 t ?_
     refine XS.ifYes X1795.here hx rfl (pc0 := 157) (pc' := 168) rfl (hb hby at_157) rfl ((if0 _ _).trans (teq hc157_1807).1) (by decide) (by decide) ?_
     exact k
    obtain ⟨_, _, ⟨T1809, L1809, k1809, n1809⟩, -, X1809, ⟨Lc1809, hQ1809, l1809, y1809, z1809⟩, st1809⟩ := Jvm.LawKit.callS X1795 hx (y := (⟨"java/util/Optional", "empty", "()Ljava/util/Optional;"⟩ : MethodName)) hown (mvT hZ (own_w hw 27 rfl)) (mvT hZ (own_w hw 28 rfl)) (mvT hZ (own_w hw 29 rfl)) (mvT hZ (own_w hw 30 rfl)) (by decide) (backOf (W := 0) (rm6 l Z ar0 hw [] s_EMPTY h1795 n0 Z1795 Sf1798) hZ (own_w hw 30 rfl) (own_w hw 29 rfl) (by decide) (by decide)) (g := (mkF m 168 #[vI p0, vI p1, vI p2, vI p3, vI p4, vI v273, vI v279, vI v285, vI v291, vI v294, vI v297, vI v300, vI v303, vR b306, vR b1320, vR b1341, vR b1795, .unset, .unset, .unset, .unset] [])) rfl (by rw [hml]; rfl) (argsL := []) (rest := []) (lenOf pd_9 rfl) rfl (by show 2 * 0 + _ ≤ _; exact Nat.le_of_eq rfl) (hb hby at_168) (fun _ _ => ⟨rfl, e1795, (by decide : 6 + 0 ≤ _), (by decide : 16 + 0 ≤ _)⟩)
    dsimp only [Pt.U, Pt.locs, Pt.cells, Pt.slots] at X1809 l1809 y1809 z1809 st1809 hQ1809
    subst l1809 y1809 z1809
    obtain ⟨rfl, N1809q, e1809⟩ := hQ1809
    have N1809 := Fr.app N1795 N1809q
    have pre1810 : own_P p e below T1809 (mkF m 171 #[vI p0, vI p1, vI p2, vI p3, vI p4, vI v273, vI v279, vI v285, vI v291, vI v294, vI v297, vI v300, vI v303, vR b306, vR b1320, vR b1341, vR b1795, .unset, .unset, .unset, .unset] [(.ref s_EMPTY)]) s₁ (own_E m p0 p1 p2 p3 p4) := fun t k => pre1808 t (st1809 t k)
    have pre1811 : own_P p e below T1809 (mkF m 175 #[vI p0, vI p1, vI p2, vI p3, vI p4, vI v273, vI v279, vI v285, vI v291, vI v294, vI v297, vI v300, vI v303, vR b306, vR b1320, vR b1341, vR b1795, vR s_EMPTY, .unset, .unset, .unset] [(.int v291)]) s₁ (own_E m p0 p1 p2 p3 p4) := by
     intro t k
     refine pre1810 t ?_
     refine XS.astore X1809.here hx rfl (hb hby at_171) rfl rfl (l' := #[vI p0, vI p1, vI p2, vI p3, vI p4, vI v273, vI v279, vI v285, vI v291, vI v294, vI v297, vI v300, vI v303, vR b306, vR b1320, vR b1341, vR b1795, vR s_EMPTY, .unset, .unset, .unset]) rfl ?_
     refine XS.iload X1809.here hx rfl (hb hby at_173) rfl ?_
     exact k
    by_cases hc175_1812 : v291 = (0 : Int32)
    ·
     have pre1813 : ∀ t, Steps p.tables e below (T1809.setTop (mkF m 186 #[vI p0, vI p1, vI p2, vI p3, vI p4, vI v273, vI v279, vI v285, vI v291, vI v294, vI v297, vI v300, vI v303, vR b306, vR b1320, vR b1341, vR b1795, vR s_EMPTY, .unset, .unset, .unset] [])) t → Steps p.tables e below (s₁.setTop (own_E m p0 p1 p2 p3 p4)) t := by
      intro t k
      refine pre1811 t ?_
      refine XS.ifYes X1809.here hx rfl (pc0 := 175) (pc' := 186) rfl (hb hby at_175) rfl ((if0 _ _).trans (teq hc175_1812).1) (by decide) (by decide) ?_
      exact k
     obtain ⟨_, _, ⟨T1814, L1814, k1814, n1814⟩, -, X1814, ⟨Lc1814, hQ1814, l1814, y1814, z1814⟩, st1814⟩ := Jvm.LawKit.callS X1809 hx (y := (⟨"java/util/Optional", "empty", "()Ljava/util/Optional;"⟩ : MethodName)) hown (mvT hZ (own_w hw 27 rfl)) (mvT hZ (own_w hw 28 rfl)) (mvT hZ (own_w hw 29 rfl)) (mvT hZ (own_w hw 30 rfl)) (by decide) (backOf (W := 0) (rm6 l Z ar0 hw [] s_EMPTY h1795 n0 Z1795 Sf1798) hZ (own_w hw 30 rfl) (own_w hw 29 rfl) (by decide) (by decide)) (g := (mkF m 186 #[vI p0, vI p1, vI p2, vI p3, vI p4, vI v273, vI v279, vI v285, vI v291, vI v294, vI v297, vI v300, vI v303, vR b306, vR b1320, vR b1341, vR b1795, vR s_EMPTY, .unset, .unset, .unset] [])) rfl (by rw [hml]; rfl) (argsL := []) (rest := []) (lenOf pd_9 rfl) rfl (by show 2 * 0 + _ ≤ _; exact Nat.le_of_eq rfl) (hb hby at_186) (fun _ _ => ⟨rfl, e1809, (by decide : 6 + 0 ≤ _), (by decide : 16 + 0 ≤ _)⟩)
     dsimp only [Pt.U, Pt.locs, Pt.cells, Pt.slots] at X1814 l1814 y1814 z1814 st1814 hQ1814
     subst l1814 y1814 z1814
     obtain ⟨rfl, N1814q, e1814⟩ := hQ1814
     have N1814 := Fr.app N1809 N1814q
     have pre1815 : own_P p e below T1814 (mkF m 189 #[vI p0, vI p1, vI p2, vI p3, vI p4, vI v273, vI v279, vI v285, vI v291, vI v294, vI v297, vI v300, vI v303, vR b306, vR b1320, vR b1341, vR b1795, vR s_EMPTY, .unset, .unset, .unset] [(.ref s_EMPTY)]) s₁ (own_E m p0 p1 p2 p3 p4) := fun t k => pre1813 t (st1814 t k)
     have pre1816 : own_P p e below T1814 (mkF m 191 #[vI p0, vI p1, vI p2, vI p3, vI p4, vI v273, vI v279, vI v285, vI v291, vI v294, vI v297, vI v300, vI v303, vR b306, vR b1320, vR b1341, vR b1795, vR s_EMPTY, vR s_EMPTY, .unset, .unset] []) s₁ (own_E m p0 p1 p2 p3 p4) := by
      intro t k
      refine pre1815 t ?_
      refine XS.astore X1814.here hx rfl (hb hby at_189) rfl rfl (l' := #[vI p0, vI p1, vI p2, vI p3, vI p4, vI v273, vI v279, vI v285, vI v291, vI v294, vI v297, vI v300, vI v303, vR b306, vR b1320, vR b1341, vR b1795, vR s_EMPTY, vR s_EMPTY, .unset, .unset]) rfl ?_
      exact k
     obtain ⟨T1817, h1817, X1817, e1817, E1817, A1817, D1817, -, st1817⟩ := newO X1814 hx hZ hown (own_w hw 32 rfl) (own_w hw 33 rfl) (own_w hw 34 rfl) e1814 (g := (mkF m 191 #[vI p0, vI p1, vI p2, vI p3, vI p4, vI v273, vI v279, vI v285, vI v291, vI v294, vI v297, vI v300, vI v303, vR b306, vR b1320, vR b1341, vR b1795, vR s_EMPTY, vR s_EMPTY, .unset, .unset] [])) rfl (hb hby at_191) (by decide) (by decide)
     obtain ⟨b1817, g1817⟩ : ∃ z, z = h1795.size := ⟨_, rfl⟩
     rw [← g1817] at A1817 D1817 st1817
     have ne_s_EMPTY_b1817 : s_EMPTY ≠ b1817 := Nat.ne_of_lt (Nat.lt_of_lt_of_le (Ef1799).lt (Nat.le_of_eq g1817.symm))
     have ne_b1320_b1817 : b1320 ≠ b1817 := Nat.ne_of_lt (Nat.lt_of_lt_of_le (Ef1801).lt (Nat.le_of_eq g1817.symm))
     have ne_t1330_b1817 : t1330 ≠ b1817 := Nat.ne_of_lt (Nat.lt_of_lt_of_le (Vf1804).lt (Nat.le_of_eq g1817.symm))
     have ne_b1795_b1817 : b1795 ≠ b1817 := Nat.ne_of_lt (Nat.lt_of_lt_of_le (Ob1795_0).lt (Nat.le_of_eq g1817.symm))
     have g_b1817 : n0 ≤ b1817 := Nat.le_trans Z1795 (Nat.le_of_eq g1817.symm)
     have sz_b1817 : h0.size ≤ b1817 := Nat.le_trans K1795.1 (Nat.le_of_eq g1817.symm)
     have Z1817 : n0 ≤ h1817.size := Nat.le_trans Z1795 E1817.1
     have K1817 : Keep h0 h1817 [] := K1795.ext E1817
     have hk1817 := Nat.le_trans hk1795 E1817.1
     have sf_b1320_1817 := Safe.ext E1817 CR1795.1 sf_b1320_1795
     have CR1817 := CR1795.trans (CHr.ext E1817 CR1795.1)
     have Sf1818 : Sta Z h1817 "java/lang/String" "COMPACT_STRINGS" "Z" (.int gc1) := (Sf1796).ext E1817
     have Sf1819 : Sta Z h1817 "jdk/internal/util/Preconditions" "SIOOBE_FORMATTER" "Ljava/util/function/BiFunction;" gf3 := (Sf1797).ext E1817
     have Sf1820 : Sta Z h1817 "java/util/Optional" "EMPTY" "Ljava/util/Optional;" (.ref s_EMPTY) := (Sf1798).ext E1817
     have Ef1821 : Exa Z h1817 s_EMPTY "java/util/Optional" := (Ef1799).ext E1817
     have Ff1822 : Fld Z h1817 s_EMPTY "java/util/Optional" "value" "Ljava/lang/Object;" .null := (Ff1800).ext E1817
     have Ef1823 : Exa Z h1817 b1320 "java/lang/String" := (Ef1801).ext E1817
     have Ff1824 : Fld Z h1817 b1320 "java/lang/String" "coder" "B" (.int 0) := (Ff1802).ext E1817
     have Ff1825 : Fld Z h1817 b1320 "java/lang/String" "value" "[B" (.ref t1330) := (Ff1803).ext E1817
     have Vf1826 : Arv Z h1817 t1330 kt1330 .byte (3 : Int32) ((([(nar .char v294), (nar .char v297), (nar .char v300)] : List Int32).map (fun c => c.toInt8.toInt32)).map Value.int) (.int 0) := (Vf1804).ext E1817
     have Ef1827 : Exa Z h1817 b1795 "java/util/Optional" := (Ob1795_0).ext E1817
     have Ff1828 : Fld Z h1817 b1795 "java/util/Optional" "value" "Ljava/lang/Object;" (.ref b1320) := (Ob1795_1).ext E1817
     have Ftext_b1817 : Fld Z h1817 b1817 own_GU "text" "Ljava/lang/String;" .null := D1817 (Or.inr (own_w hw 60 rfl)) (ty := (.object "java/lang/String")) (by decide)
     have Fhost_b1817 : Fld Z h1817 b1817 own_GU "host" "Ljava/lang/String;" .null := D1817 (Or.inr (own_w hw 62 rfl)) (ty := (.object "java/lang/String")) (by decide)
     have Fport_b1817 : Fld Z h1817 b1817 own_GU "port" "Ljava/util/Optional;" .null := D1817 (Or.inr (own_w hw 64 rfl)) (ty := (.object "java/util/Optional")) (by decide)
     have Ftype_b1817 : Fld Z h1817 b1817 own_GU "type" "Ljava/util/Optional;" .null := D1817 (Or.inr (own_w hw 66 rfl)) (ty := (.object "java/util/Optional")) (by decide)
     have Fselector_b1817 : Fld Z h1817 b1817 own_GU "selector" "Ljava/lang/String;" .null := D1817 (Or.inr (own_w hw 68 rfl)) (ty := (.object "java/lang/String")) (by decide)
     have Fsearch_b1817 : Fld Z h1817 b1817 own_GU "search" "Ljava/util/Optional;" .null := D1817 (Or.inr (own_w hw 70 rfl)) (ty := (.object "java/util/Optional")) (by decide)
     have FgopherPlus_b1817 : Fld Z h1817 b1817 own_GU "gopherPlus" "Ljava/util/Optional;" .null := D1817 (Or.inr (own_w hw 72 rfl)) (ty := (.object "java/util/Optional")) (by decide)
     have pre1829 : own_P p e below T1817 (mkF m 194 #[vI p0, vI p1, vI p2, vI p3, vI p4, vI v273, vI v279, vI v285, vI v291, vI v294, vI v297, vI v300, vI v303, vR b306, vR b1320, vR b1341, vR b1795, vR s_EMPTY, vR s_EMPTY, .unset, .unset] [(.ref b1817)]) s₁ (own_E m p0 p1 p2 p3 p4) := fun t k => pre1816 t (st1817 t k)
     have pre1830 : own_P p e below T1817 (mkF m 195 #[vI p0, vI p1, vI p2, vI p3, vI p4, vI v273, vI v279, vI v285, vI v291, vI v294, vI v297, vI v300, vI v303, vR b306, vR b1320, vR b1341, vR b1795, vR s_EMPTY, vR s_EMPTY, .unset, .unset] [(.ref b1817), (.ref b1817)]) s₁ (own_E m p0 p1 p2 p3 p4) := by
      intro t k
      refine pre1829 t ?_
      refine XS.dup X1817.here hx rfl (hb hby at_194) rfl rfl ?_
      exact k
     obtain ⟨a1831, T1831, h1831, k1831, X1831, e1831, E1831, hS1831, hk1831, hZ1831, ho1831, hC1831, -, st1831⟩ := ldcOH (s := s) (vm0 := s.vm) X1817 hx hZ hown (own_w hw 35 rfl) (own_strW hw) e1817 hS0 hk1817 hEL CR1817.1 (g := (mkF m 195 #[vI p0, vI p1, vI p2, vI p3, vI p4, vI v273, vI v279, vI v285, vI v291, vI v294, vI v297, vI v300, vI v303, vR b306, vR b1320, vR b1341, vR b1795, vR s_EMPTY, vR s_EMPTY, .unset, .unset] [(.ref b1817), (.ref b1817)])) rfl (hb hby at_195) (n := 44) (by decide) (by decide) (by decide) (by decide)
     have sf_b1320_1831 := CHr.safe hC1831 (Ef1823).lt sf_b1320_1817
     have CR1831 := CR1817.trans hC1831
     have Z1831 : n0 ≤ h1831.size := Nat.le_trans Z1817 E1831.1
     have K1831 : Keep h0 h1831 [] := K1817.ext E1831
     have Sf1832 : Sta Z h1831 "java/lang/String" "COMPACT_STRINGS" "Z" (.int gc1) := (Sf1818).ext E1831
     have Sf1833 : Sta Z h1831 "jdk/internal/util/Preconditions" "SIOOBE_FORMATTER" "Ljava/util/function/BiFunction;" gf3 := (Sf1819).ext E1831
     have Sf1834 : Sta Z h1831 "java/util/Optional" "EMPTY" "Ljava/util/Optional;" (.ref s_EMPTY) := (Sf1820).ext E1831
     have Ef1835 : Exa Z h1831 s_EMPTY "java/util/Optional" := (Ef1821).ext E1831
     have Ff1836 : Fld Z h1831 s_EMPTY "java/util/Optional" "value" "Ljava/lang/Object;" .null := (Ff1822).ext E1831
     have Ef1837 : Exa Z h1831 b1320 "java/lang/String" := (Ef1823).ext E1831
     have Ff1838 : Fld Z h1831 b1320 "java/lang/String" "coder" "B" (.int 0) := (Ff1824).ext E1831
     have Ff1839 : Fld Z h1831 b1320 "java/lang/String" "value" "[B" (.ref t1330) := (Ff1825).ext E1831
     have Vf1840 : Arv Z h1831 t1330 kt1330 .byte (3 : Int32) ((([(nar .char v294), (nar .char v297), (nar .char v300)] : List Int32).map (fun c => c.toInt8.toInt32)).map Value.int) (.int 0) := (Vf1826).ext E1831
     have Ef1841 : Exa Z h1831 b1795 "java/util/Optional" := (Ef1827).ext E1831
     have Ff1842 : Fld Z h1831 b1795 "java/util/Optional" "value" "Ljava/lang/Object;" (.ref b1320) := (Ff1828).ext E1831
     have Ef1843 : Exa Z h1831 b1817 own_GU := (A1817).ext E1831
     have Ff1844 : Fld Z h1831 b1817 own_GU "text" "Ljava/lang/String;" .null := (Ftext_b1817).ext E1831
     have Ff1845 : Fld Z h1831 b1817 own_GU "host" "Ljava/lang/String;" .null := (Fhost_b1817).ext E1831
     have Ff1846 : Fld Z h1831 b1817 own_GU "port" "Ljava/util/Optional;" .null := (Fport_b1817).ext E1831
     have Ff1847 : Fld Z h1831 b1817 own_GU "type" "Ljava/util/Optional;" .null := (Ftype_b1817).ext E1831
     have Ff1848 : Fld Z h1831 b1817 own_GU "selector" "Ljava/lang/String;" .null := (Fselector_b1817).ext E1831
     have Ff1849 : Fld Z h1831 b1817 own_GU "search" "Ljava/util/Optional;" .null := (Fsearch_b1817).ext E1831
     have Ff1850 : Fld Z h1831 b1817 own_GU "gopherPlus" "Ljava/util/Optional;" .null := (FgopherPlus_b1817).ext E1831
     have pre1851 : own_P p e below T1831 (mkF m 197 #[vI p0, vI p1, vI p2, vI p3, vI p4, vI v273, vI v279, vI v285, vI v291, vI v294, vI v297, vI v300, vI v303, vR b306, vR b1320, vR b1341, vR b1795, vR s_EMPTY, vR s_EMPTY, .unset, .unset] [(.ref a1831), (.ref b1817), (.ref b1817)]) s₁ (own_E m p0 p1 p2 p3 p4) := fun t k => pre1830 t (st1831 t k)
     obtain ⟨a1852, T1852, h1852, k1852, X1852, e1852, E1852, hS1852, hk1852, hZ1852, ho1852, hC1852, -, st1852⟩ := ldcOH (s := s) (vm0 := T1831.vm) X1831 hx hZ1831 ho1831 (own_w hw 38 rfl) (own_strW hw) e1831 hS1831 hk1831 hEL CR1831.1 (g := (mkF m 197 #[vI p0, vI p1, vI p2, vI p3, vI p4, vI v273, vI v279, vI v285, vI v291, vI v294, vI v297, vI v300, vI v303, vR b306, vR b1320, vR b1341, vR b1795, vR s_EMPTY, vR s_EMPTY, .unset, .unset] [(.ref a1831), (.ref b1817), (.ref b1817)])) rfl (hb hby at_197) (n := 4) (by decide) (by decide) (by decide) (by decide)
     have sf_b1320_1852 := CHr.safe hC1852 (Ef1837).lt sf_b1320_1831
     have CR1852 := CR1831.trans hC1852
     have Z1852 : n0 ≤ h1852.size := Nat.le_trans Z1831 E1852.1
     have K1852 : Keep h0 h1852 [] := K1831.ext E1852
     have Sf1853 : Sta Z h1852 "java/lang/String" "COMPACT_STRINGS" "Z" (.int gc1) := (Sf1832).ext E1852
     have Sf1854 : Sta Z h1852 "jdk/internal/util/Preconditions" "SIOOBE_FORMATTER" "Ljava/util/function/BiFunction;" gf3 := (Sf1833).ext E1852
     have Sf1855 : Sta Z h1852 "java/util/Optional" "EMPTY" "Ljava/util/Optional;" (.ref s_EMPTY) := (Sf1834).ext E1852
     have Ef1856 : Exa Z h1852 s_EMPTY "java/util/Optional" := (Ef1835).ext E1852
     have Ff1857 : Fld Z h1852 s_EMPTY "java/util/Optional" "value" "Ljava/lang/Object;" .null := (Ff1836).ext E1852
     have Ef1858 : Exa Z h1852 b1320 "java/lang/String" := (Ef1837).ext E1852
     have Ff1859 : Fld Z h1852 b1320 "java/lang/String" "coder" "B" (.int 0) := (Ff1838).ext E1852
     have Ff1860 : Fld Z h1852 b1320 "java/lang/String" "value" "[B" (.ref t1330) := (Ff1839).ext E1852
     have Vf1861 : Arv Z h1852 t1330 kt1330 .byte (3 : Int32) ((([(nar .char v294), (nar .char v297), (nar .char v300)] : List Int32).map (fun c => c.toInt8.toInt32)).map Value.int) (.int 0) := (Vf1840).ext E1852
     have Ef1862 : Exa Z h1852 b1795 "java/util/Optional" := (Ef1841).ext E1852
     have Ff1863 : Fld Z h1852 b1795 "java/util/Optional" "value" "Ljava/lang/Object;" (.ref b1320) := (Ff1842).ext E1852
     have Ef1864 : Exa Z h1852 b1817 own_GU := (Ef1843).ext E1852
     have Ff1865 : Fld Z h1852 b1817 own_GU "text" "Ljava/lang/String;" .null := (Ff1844).ext E1852
     have Ff1866 : Fld Z h1852 b1817 own_GU "host" "Ljava/lang/String;" .null := (Ff1845).ext E1852
     have Ff1867 : Fld Z h1852 b1817 own_GU "port" "Ljava/util/Optional;" .null := (Ff1846).ext E1852
     have Ff1868 : Fld Z h1852 b1817 own_GU "type" "Ljava/util/Optional;" .null := (Ff1847).ext E1852
     have Ff1869 : Fld Z h1852 b1817 own_GU "selector" "Ljava/lang/String;" .null := (Ff1848).ext E1852
     have Ff1870 : Fld Z h1852 b1817 own_GU "search" "Ljava/util/Optional;" .null := (Ff1849).ext E1852
     have Ff1871 : Fld Z h1852 b1817 own_GU "gopherPlus" "Ljava/util/Optional;" .null := (Ff1850).ext E1852
     have pre1872 : own_P p e below T1852 (mkF m 199 #[vI p0, vI p1, vI p2, vI p3, vI p4, vI v273, vI v279, vI v285, vI v291, vI v294, vI v297, vI v300, vI v303, vR b306, vR b1320, vR b1341, vR b1795, vR s_EMPTY, vR s_EMPTY, .unset, .unset] [(.ref a1852), (.ref a1831), (.ref b1817), (.ref b1817)]) s₁ (own_E m p0 p1 p2 p3 p4) := fun t k => pre1851 t (st1852 t k)
     have pre1873 : own_P p e below T1852 (mkF m 207 #[vI p0, vI p1, vI p2, vI p3, vI p4, vI v273, vI v279, vI v285, vI v291, vI v294, vI v297, vI v300, vI v303, vR b306, vR b1320, vR b1341, vR b1795, vR s_EMPTY, vR s_EMPTY, .unset, .unset] [(.ref s_EMPTY), (.ref b1341), (.ref b1795), (.ref s_EMPTY), (.ref a1852), (.ref a1831), (.ref b1817), (.ref b1817)]) s₁ (own_E m p0 p1 p2 p3 p4) := by
      intro t k
      refine pre1872 t ?_
      refine XS.aload X1852.here hx rfl (hb hby at_199) rfl rfl ?_
      refine XS.aload X1852.here hx rfl (hb hby at_201) rfl rfl ?_
      refine XS.aload X1852.here hx rfl (hb hby at_203) rfl rfl ?_
      refine XS.aload X1852.here hx rfl (hb hby at_205) rfl rfl ?_
      exact k
     obtain ⟨_, _, ⟨T1874, L1874, k1874, n1874⟩, -, X1874, ⟨Lc1874, hQ1874, l1874, y1874, z1874⟩, st1874⟩ := Jvm.LawKit.callS X1852 hx (y := (⟨"java/util/Optional", "empty", "()Ljava/util/Optional;"⟩ : MethodName)) ho1852 (mvT hZ1852 (own_w hw 27 rfl)) (mvT hZ1852 (own_w hw 28 rfl)) (mvT hZ1852 (own_w hw 29 rfl)) (mvT hZ1852 (own_w hw 30 rfl)) (by decide) (backOf (W := 8) (rm6 l Z ar0 hw [] s_EMPTY h1852 n0 Z1852 Sf1855) hZ1852 (own_w hw 30 rfl) (own_w hw 29 rfl) (by decide) (by decide)) (g := (mkF m 207 #[vI p0, vI p1, vI p2, vI p3, vI p4, vI v273, vI v279, vI v285, vI v291, vI v294, vI v297, vI v300, vI v303, vR b306, vR b1320, vR b1341, vR b1795, vR s_EMPTY, vR s_EMPTY, .unset, .unset] [(.ref s_EMPTY), (.ref b1341), (.ref b1795), (.ref s_EMPTY), (.ref a1852), (.ref a1831), (.ref b1817), (.ref b1817)])) rfl (by rw [hml]; rfl) (argsL := []) (rest := [(.ref s_EMPTY), (.ref b1341), (.ref b1795), (.ref s_EMPTY), (.ref a1852), (.ref a1831), (.ref b1817), (.ref b1817)]) (lenOf pd_9 rfl) rfl (by show 2 * 0 + _ ≤ _; exact Nat.le_of_eq rfl) (hb hby at_207) (fun _ _ => ⟨rfl, e1852, (by decide : 11 + 0 ≤ _), (by decide : 79 + 0 ≤ _)⟩)
     dsimp only [Pt.U, Pt.locs, Pt.cells, Pt.slots] at X1874 l1874 y1874 z1874 st1874 hQ1874
     subst l1874 y1874 z1874
     obtain ⟨rfl, N1874q, e1874⟩ := hQ1874
     have N1874 := Fr.app N1814 N1874q
     have pre1875 : own_P p e below T1874 (mkF m 210 #[vI p0, vI p1, vI p2, vI p3, vI p4, vI v273, vI v279, vI v285, vI v291, vI v294, vI v297, vI v300, vI v303, vR b306, vR b1320, vR b1341, vR b1795, vR s_EMPTY, vR s_EMPTY, .unset, .unset] [(.ref s_EMPTY), (.ref s_EMPTY), (.ref b1341), (.ref b1795), (.ref s_EMPTY), (.ref a1852), (.ref a1831), (.ref b1817), (.ref b1817)]) s₁ (own_E m p0 p1 p2 p3 p4) := fun t k => pre1873 t (st1874 t k)
     obtain ⟨_, _, ⟨T1876, L1876, k1876, n1876⟩, -, X1876r, hS1876r, hg1876r, ⟨Lc1876, hQ1876, l1876, y1876, z1876, hC1876⟩, st1876⟩ := X1874.specialBackS hx (y := (⟨own_GU, "<init>", "(Ljava/lang/String;Ljava/lang/String;Ljava/util/Optional;Ljava/util/Optional;Ljava/lang/String;Ljava/util/Optional;Ljava/util/Optional;)V"⟩ : MethodName)) rfl ho1852 (mvT hZ1852 (own_w hw 39 rfl)) (mvT hZ1852 (own_w hw 40 rfl)) (mvT hZ1852 (own_w hw 41 rfl)) (by decide) (backOfSH (W := 1) (rm7 l Z ar0 hw [] b1817 a1831 a1852 s_EMPTY b1795 b1341 s_EMPTY s_EMPTY .null .null .null .null .null .null .null h1852 n0 Z1852 Ef1864 Ff1865 Ff1866 Ff1867 Ff1868 Ff1869 Ff1870 Ff1871 g_b1817) hZ1852 (own_w hw 41 rfl) (own_w hw 34 rfl) (by decide) (by decide) hEL CR1852.1) (g := (mkF m 210 #[vI p0, vI p1, vI p2, vI p3, vI p4, vI v273, vI v279, vI v285, vI v291, vI v294, vI v297, vI v300, vI v303, vR b306, vR b1320, vR b1341, vR b1795, vR s_EMPTY, vR s_EMPTY, .unset, .unset] [(.ref s_EMPTY), (.ref s_EMPTY), (.ref b1341), (.ref b1795), (.ref s_EMPTY), (.ref a1852), (.ref a1831), (.ref b1817), (.ref b1817)])) rfl (by rw [hml]; rfl) (Steps.refl _) (a := b1817) (argsL := [(.ref a1831), (.ref a1852), (.ref s_EMPTY), (.ref b1795), (.ref b1341), (.ref s_EMPTY), (.ref s_EMPTY)]) (rest := [(.ref b1817)]) (lenOf pd_11 rfl) rfl (by show 2 * 0 + _ ≤ _; exact Nat.le_of_eq rfl) (hb hby at_210) (fun _ _ => ⟨rfl, e1874, (by decide : 11 + 14 ≤ _), (by decide : 79 + 188 ≤ _)⟩)
     dsimp only [Pt.U, Pt.locs, Pt.cells, Pt.slots] at X1876r hS1876r hg1876r l1876 y1876 z1876 st1876 hQ1876 hC1876
     subst l1876 y1876 z1876
     obtain ⟨X1876, hS1876, hZ1876, ho1876⟩ := rebS (s := s) (vm0 := T1852.vm) (n1 := T1874.heap.size) hS1852 (by rw [e1874]; first | exact hk1852 | exact Nat.le_refl _) X1876r hS1876r hg1876r hZ1852 ho1852
     obtain ⟨h1876, e1876⟩ : ∃ h, T1876.heap = h := ⟨_, rfl⟩
     rw [e1876] at hQ1876
     obtain ⟨rfl, N1876q, K1876q, Q1876_0, Q1876_1, Q1876_2, Q1876_3, Q1876_4, Q1876_5, Q1876_6, Q1876_7⟩ := hQ1876
     have N1876 := Fr.app N1874 N1876q
     have Z1876 : n0 ≤ h1876.size := Nat.le_trans Z1852 K1876q.1
     have K1876 : Keep h0 h1876 [] := K1852.trans K1876q (fun x hx => by cases List.mem_singleton.mp hx; exact Or.inr sz_b1817)
     have Sf1877 : Sta Z h1876 "java/lang/String" "COMPACT_STRINGS" "Z" (.int gc1) := own_sta_keep Sf1853 K1876q (own_ns1 (own_ns_exa Ef1864))
     have Sf1878 : Sta Z h1876 "jdk/internal/util/Preconditions" "SIOOBE_FORMATTER" "Ljava/util/function/BiFunction;" gf3 := own_sta_keep Sf1854 K1876q (own_ns1 (own_ns_exa Ef1864))
     have Sf1879 : Sta Z h1876 "java/util/Optional" "EMPTY" "Ljava/util/Optional;" (.ref s_EMPTY) := own_sta_keep Sf1855 K1876q (own_ns1 (own_ns_exa Ef1864))
     have Ef1880 : Exa Z h1876 s_EMPTY "java/util/Optional" := (Ef1856).keep K1876q
     have Ff1881 : Fld Z h1876 s_EMPTY "java/util/Optional" "value" "Ljava/lang/Object;" .null := (Ff1857).keep K1876q (fun q => absurd (List.mem_singleton.mp q) ne_s_EMPTY_b1817)
     have Ef1882 : Exa Z h1876 b1320 "java/lang/String" := (Ef1858).keep K1876q
     have Ff1883 : Fld Z h1876 b1320 "java/lang/String" "coder" "B" (.int 0) := (Ff1859).keep K1876q (fun q => absurd (List.mem_singleton.mp q) ne_b1320_b1817)
     have Ff1884 : Fld Z h1876 b1320 "java/lang/String" "value" "[B" (.ref t1330) := (Ff1860).keep K1876q (fun q => absurd (List.mem_singleton.mp q) ne_b1320_b1817)
     have Vf1885 : Arv Z h1876 t1330 kt1330 .byte (3 : Int32) ((([(nar .char v294), (nar .char v297), (nar .char v300)] : List Int32).map (fun c => c.toInt8.toInt32)).map Value.int) (.int 0) := (Vf1861).keep K1876q (fun q => absurd (List.mem_singleton.mp q) ne_t1330_b1817)
     have Ef1886 : Exa Z h1876 b1795 "java/util/Optional" := (Ef1862).keep K1876q
     have Ff1887 : Fld Z h1876 b1795 "java/util/Optional" "value" "Ljava/lang/Object;" (.ref b1320) := (Ff1863).keep K1876q (fun q => absurd (List.mem_singleton.mp q) ne_b1795_b1817)
     have Ef1888 : Exa Z h1876 b1817 own_GU := (Ef1864).keep K1876q
     rw [e1876] at hC1876
     have CR1876 := CR1852.trans hC1876
     have hk1876 : T1876.heap.size ≤ h1876.size := by rw [e1876]; exact Nat.le_refl _
     have pre1889 : own_P p e below T1876 (mkF m 213 #[vI p0, vI p1, vI p2, vI p3, vI p4, vI v273, vI v279, vI v285, vI v291, vI v294, vI v297, vI v300, vI v303, vR b306, vR b1320, vR b1341, vR b1795, vR s_EMPTY, vR s_EMPTY, .unset, .unset] [(.ref b1817)]) s₁ (own_E m p0 p1 p2 p3 p4) := fun t k => pre1875 t (st1876.trans k)
     have pre1890 : own_P p e below T1876 (mkF m 217 #[vI p0, vI p1, vI p2, vI p3, vI p4, vI v273, vI v279, vI v285, vI v291, vI v294, vI v297, vI v300, vI v303, vR b306, vR b1320, vR b1341, vR b1795, vR s_EMPTY, vR s_EMPTY, vR b1817, .unset] [(.ref b1817)]) s₁ (own_E m p0 p1 p2 p3 p4) := by
      intro t k
      refine pre1889 t ?_
      refine XS.astore X1876.here hx rfl (hb hby at_213) rfl rfl (l' := #[vI p0, vI p1, vI p2, vI p3, vI p4, vI v273, vI v279, vI v285, vI v291, vI v294, vI v297, vI v300, vI v303, vR b306, vR b1320, vR b1341, vR b1795, vR s_EMPTY, vR s_EMPTY, vR b1817, .unset]) rfl ?_
      refine XS.aload X1876.here hx rfl (hb hby at_215) rfl rfl ?_
      exact k
     obtain ⟨cq1891, kq1891, q1891a, q1891b, q1891c⟩ := isOf hZ1876 e1876 Q1876_0
     obtain ⟨_, _, ⟨T1891, L1891, k1891, n1891⟩, -, X1891r, hS1891r, hg1891r, ⟨Lc1891, hQ1891, l1891, y1891, z1891, hC1891⟩, st1891⟩ := X1876.virtualBackS hx (y := (⟨own_GU, "effectiveType", "()Ljava/lang/String;"⟩ : MethodName)) (z := (⟨own_GU, "effectiveType", "()Ljava/lang/String;"⟩ : MethodName)) ho1876 (mvT hZ1876 (own_w hw 73 rfl)) (mvT hZ1876 (own_w hw 74 rfl)) (notFace_of_selects (args := #[]) (mvT hZ1876 (own_w hw 76 rfl))) (mvT hZ1876 (own_w hw 76 rfl)) (mvT hZ1876 (own_w hw 75 rfl)) (by decide) (backOfSH (W := 0) (rm10_y l Z ar0 hw [] b1817 b1795 b1320 h1876 n0 Z1876 Q1876_0 Q1876_4 Ef1886 Ff1887 Ef1882) hZ1876 (own_w hw 77 rfl) (own_w hw 34 rfl) (by decide) (by decide) hEL CR1876.1) q1891a q1891c (g := (mkF m 217 #[vI p0, vI p1, vI p2, vI p3, vI p4, vI v273, vI v279, vI v285, vI v291, vI v294, vI v297, vI v300, vI v303, vR b306, vR b1320, vR b1341, vR b1795, vR s_EMPTY, vR s_EMPTY, vR b1817, .unset] [(.ref b1817)])) rfl (by rw [hml]; rfl) (Steps.refl _) (argsL := []) (rest := []) (lenOf pd_12 rfl) rfl (by show 2 * 0 + _ ≤ _; exact Nat.le_of_eq rfl) (hb hby at_217) (fun _ _ => ⟨rfl, e1876, (by decide : 25 + 2 ≤ _), (by decide : 267 + 8 ≤ _)⟩)
     dsimp only [Pt.U, Pt.locs, Pt.cells, Pt.slots] at X1891r hS1891r hg1891r l1891 y1891 z1891 st1891 hQ1891 hC1891
     subst l1891 y1891 z1891
     obtain ⟨X1891, hS1891, hZ1891, ho1891⟩ := rebS (s := s) (vm0 := T1876.vm) (n1 := T1876.heap.size) hS1876 (by rw [e1876]; first | exact hk1876 | exact Nat.le_refl _) X1891r hS1891r hg1891r hZ1876 ho1876
     obtain ⟨h1891, e1891⟩ : ∃ h, T1891.heap = h := ⟨_, rfl⟩
     rw [e1891] at hQ1891
     obtain ⟨rfl, N1891q, K1891q⟩ := hQ1891
     have N1891 := Fr.app N1876 N1891q
     have Z1891 : n0 ≤ h1891.size := Nat.le_trans Z1876 K1891q.1
     have K1891 : Keep h0 h1891 [] := K1876.trans K1891q (fun x hx => absurd hx List.not_mem_nil)
     have Sf1892 : Sta Z h1891 "java/lang/String" "COMPACT_STRINGS" "Z" (.int gc1) := own_sta_keep0 Sf1877 K1891q
     have Sf1893 : Sta Z h1891 "jdk/internal/util/Preconditions" "SIOOBE_FORMATTER" "Ljava/util/function/BiFunction;" gf3 := own_sta_keep0 Sf1878 K1891q
     have Sf1894 : Sta Z h1891 "java/util/Optional" "EMPTY" "Ljava/util/Optional;" (.ref s_EMPTY) := own_sta_keep0 Sf1879 K1891q
     have Ef1895 : Exa Z h1891 s_EMPTY "java/util/Optional" := (Ef1880).keep K1891q
     have Ff1896 : Fld Z h1891 s_EMPTY "java/util/Optional" "value" "Ljava/lang/Object;" .null := (Ff1881).keep K1891q List.not_mem_nil
     have Ef1897 : Exa Z h1891 b1320 "java/lang/String" := (Ef1882).keep K1891q
     have Ff1898 : Fld Z h1891 b1320 "java/lang/String" "coder" "B" (.int 0) := (Ff1883).keep K1891q List.not_mem_nil
     have Ff1899 : Fld Z h1891 b1320 "java/lang/String" "value" "[B" (.ref t1330) := (Ff1884).keep K1891q List.not_mem_nil
     have Vf1900 : Arv Z h1891 t1330 kt1330 .byte (3 : Int32) ((([(nar .char v294), (nar .char v297), (nar .char v300)] : List Int32).map (fun c => c.toInt8.toInt32)).map Value.int) (.int 0) := (Vf1885).keep K1891q List.not_mem_nil
     have Ef1901 : Exa Z h1891 b1795 "java/util/Optional" := (Ef1886).keep K1891q
     have Ff1902 : Fld Z h1891 b1795 "java/util/Optional" "value" "Ljava/lang/Object;" (.ref b1320) := (Ff1887).keep K1891q List.not_mem_nil
     have Ef1903 : Exa Z h1891 b1817 own_GU := (Q1876_0).keep K1891q
     have Ff1904 : Fld Z h1891 b1817 own_GU "text" "Ljava/lang/String;" (.ref a1831) := (Q1876_1).keep K1891q List.not_mem_nil
     have Ff1905 : Fld Z h1891 b1817 own_GU "host" "Ljava/lang/String;" (.ref a1852) := (Q1876_2).keep K1891q List.not_mem_nil
     have Ff1906 : Fld Z h1891 b1817 own_GU "port" "Ljava/util/Optional;" (.ref s_EMPTY) := (Q1876_3).keep K1891q List.not_mem_nil
     have Ff1907 : Fld Z h1891 b1817 own_GU "type" "Ljava/util/Optional;" (.ref b1795) := (Q1876_4).keep K1891q List.not_mem_nil
     have Ff1908 : Fld Z h1891 b1817 own_GU "selector" "Ljava/lang/String;" (.ref b1341) := (Q1876_5).keep K1891q List.not_mem_nil
     have Ff1909 : Fld Z h1891 b1817 own_GU "search" "Ljava/util/Optional;" (.ref s_EMPTY) := (Q1876_6).keep K1891q List.not_mem_nil
     have Ff1910 : Fld Z h1891 b1817 own_GU "gopherPlus" "Ljava/util/Optional;" (.ref s_EMPTY) := (Q1876_7).keep K1891q List.not_mem_nil
     rw [e1891] at hC1891
     have CR1891 := CR1876.trans hC1891
     have hk1891 : T1891.heap.size ≤ h1891.size := by rw [e1891]; exact Nat.le_refl _
     have pre1911 : own_P p e below T1891 (mkF m 220 #[vI p0, vI p1, vI p2, vI p3, vI p4, vI v273, vI v279, vI v285, vI v291, vI v294, vI v297, vI v300, vI v303, vR b306, vR b1320, vR b1341, vR b1795, vR s_EMPTY, vR s_EMPTY, vR b1817, .unset] [(.ref b1320)]) s₁ (own_E m p0 p1 p2 p3 p4) := fun t k => pre1890 t (st1891.trans k)
     have pre1912 : own_P p e below T1891 (mkF m 238 #[vI p0, vI p1, vI p2, vI p3, vI p4, vI v273, vI v279, vI v285, vI v291, vI v294, vI v297, vI v300, vI v303, vR b306, vR b1320, vR b1341, vR b1795, vR s_EMPTY, vR s_EMPTY, vR b1817, vR b1320] [(.ref b1320), (.ref b1320)]) s₁ (own_E m p0 p1 p2 p3 p4) := by
      intro t k
      refine pre1911 t ?_
      refine XS.astore X1891.here hx rfl (hb hby at_220) rfl rfl (l' := #[vI p0, vI p1, vI p2, vI p3, vI p4, vI v273, vI v279, vI v285, vI v291, vI v294, vI v297, vI v300, vI v303, vR b306, vR b1320, vR b1341, vR b1795, vR s_EMPTY, vR s_EMPTY, vR b1817, vR b1320]) rfl ?_
      refine XS.aload X1891.here hx rfl (hb hby at_222) rfl rfl ?_
      refine XS.ifnonnullYes X1891.here hx rfl (pc0 := 224) (pc' := 229) rfl (hb hby at_224) rfl (by decide) (by decide) ?_
      refine XS.iload X1891.here hx rfl (hb hby at_229) rfl ?_
      refine XS.ifNo X1891.here hx rfl (hb hby at_231) rfl ((if0 _ _).trans (feq hc139_1355).1) ?_
      refine XS.aload X1891.here hx rfl (hb hby at_234) rfl rfl ?_
      refine XS.aload X1891.here hx rfl (hb hby at_236) rfl rfl ?_
      exact k
     obtain ⟨cq1913, kq1913, q1913a, q1913b, q1913c⟩ := isOf hZ1891 e1891 Ef1897
     obtain ⟨_, _, ⟨T1913, L1913, k1913, n1913⟩, -, X1913, ⟨Lc1913, hQ1913, l1913, y1913, z1913⟩, st1913⟩ := X1891.virtualBack hx (y := (⟨"java/lang/String", "equals", "(Ljava/lang/Object;)Z"⟩ : MethodName)) (z := (⟨"java/lang/String", "equals", "(Ljava/lang/Object;)Z"⟩ : MethodName)) ho1891 (mvT hZ1891 (own_w hw 148 rfl)) (mvT hZ1891 (own_w hw 149 rfl)) (notFace_of_selects (args := #[]) (mvT hZ1891 (own_w hw 151 rfl))) (mvT hZ1891 (own_w hw 151 rfl)) (mvT hZ1891 (own_w hw 150 rfl)) (by decide) (backOf (W := 0) (rm27_s l Z ar0 hw [] b1320 h1891 n0 Z1891) hZ1891 (own_w hw 152 rfl) (own_w hw 3 rfl) (by decide) (by decide)) q1913a q1913c (g := (mkF m 238 #[vI p0, vI p1, vI p2, vI p3, vI p4, vI v273, vI v279, vI v285, vI v291, vI v294, vI v297, vI v300, vI v303, vR b306, vR b1320, vR b1341, vR b1795, vR s_EMPTY, vR s_EMPTY, vR b1817, vR b1320] [(.ref b1320), (.ref b1320)])) rfl (by rw [hml]; rfl) (Steps.refl _) (argsL := [(.ref b1320)]) (rest := []) (lenOf pd_15 rfl) rfl (by show 2 * 0 + _ ≤ _; exact Nat.le_of_eq rfl) (hb hby at_238) (fun _ _ => ⟨rfl, e1891, (by decide : 27 + 0 ≤ _), (by decide : 275 + 0 ≤ _)⟩)
     dsimp only [Pt.U, Pt.locs, Pt.cells, Pt.slots] at X1913 l1913 y1913 z1913 st1913 hQ1913
     subst l1913 y1913 z1913
     obtain ⟨rfl, N1913q, e1913⟩ := hQ1913
     have N1913 := Fr.app N1891 N1913q
     have pre1914 : own_P p e below T1913 (mkF m 241 #[vI p0, vI p1, vI p2, vI p3, vI p4, vI v273, vI v279, vI v285, vI v291, vI v294, vI v297, vI v300, vI v303, vR b306, vR b1320, vR b1341, vR b1795, vR s_EMPTY, vR s_EMPTY, vR b1817, vR b1320] [(.int 1)]) s₁ (own_E m p0 p1 p2 p3 p4) := fun t k => pre1912 t (st1913.trans k)
     obtain ⟨fs, hr, hrun, hended, hRW⟩ := X1913.leaveW (s := s) (vm₁ := T1891.vm) hS1891 (by rw [e1913]; first | exact hk1891 | exact Nat.le_refl _) (v := some (.int 1)) (fun h => by rw [Bd.returns] at h; cases h)
     refine ⟨_, _, pre1914 _ ?_, hrun, hended, _, _, rfl, ?_, hRW.1, hRW.2.1, hRW.2.2.1, hRW.2.2.2.mono (by decide) (by decide)⟩
     ·
      exact retN X1913 hx (t := .boolean) Bd.returns (by simp) (hb hby at_241) hr
     ·
      show Q0 Z p0 p1 p2 p3 p4 gc1 gf3 s_EMPTY h0 n0 _ T1913.heap _
      rw [e1913]
      exact ⟨rfl, N1913⟩
    ·
     have pre1915 : ∀ t, Steps p.tables e below (T1809.setTop (mkF m 180 #[vI p0, vI p1, vI p2, vI p3, vI p4, vI v273, vI v279, vI v285, vI v291, vI v294, vI v297, vI v300, vI v303, vR b306, vR b1320, vR b1341, vR b1795, vR s_EMPTY, .unset, .unset, .unset] [(.ref b1341)])) t → Steps p.tables e below (s₁.setTop (own_E m p0 p1 p2 p3 p4)) t := by
      intro t k
      refine pre1811 t ?_
      refine XS.ifNo X1809.here hx rfl (hb hby at_175) rfl ((if0 _ _).trans (feq hc175_1812).1) ?_
      refine XS.aload X1809.here hx rfl (hb hby at_178) rfl rfl ?_
      exact k
     obtain ⟨_, _, ⟨T1916, L1916, k1916, n1916⟩, -, X1916, ⟨Lc1916, hQ1916, l1916, y1916, z1916⟩, st1916⟩ := Jvm.LawKit.callS X1809 hx (y := (⟨"java/util/Optional", "of", "(Ljava/lang/Object;)Ljava/util/Optional;"⟩ : MethodName)) hown (mvT hZ (own_w hw 135 rfl)) (mvT hZ (own_w hw 136 rfl)) (mvT hZ (own_w hw 29 rfl)) (mvT hZ (own_w hw 137 rfl)) (by decide) (backOf (W := 0) (rm24 l Z ar0 hw [] b1341 h1795 n0 Z1795) hZ (own_w hw 137 rfl) (own_w hw 29 rfl) (by decide) (by decide)) (g := (mkF m 180 #[vI p0, vI p1, vI p2, vI p3, vI p4, vI v273, vI v279, vI v285, vI v291, vI v294, vI v297, vI v300, vI v303, vR b306, vR b1320, vR b1341, vR b1795, vR s_EMPTY, .unset, .unset, .unset] [(.ref b1341)])) rfl (by rw [hml]; rfl) (argsL := [(.ref b1341)]) (rest := []) (lenOf pd_10 rfl) rfl (by show 2 * 0 + _ ≤ _; exact Nat.le_of_eq rfl) (hb hby at_180) (fun _ _ => ⟨rfl, e1809, (by decide : 6 + 1 ≤ _), (by decide : 16 + 1 ≤ _)⟩)
     dsimp only [Pt.U, Pt.locs, Pt.cells, Pt.slots] at X1916 l1916 y1916 z1916 st1916 hQ1916
     subst l1916 y1916 z1916
     obtain ⟨h1916, e1916⟩ : ∃ h, T1916.heap = h := ⟨_, rfl⟩
     rw [e1916] at hQ1916
     obtain ⟨b1916, rfl, N1916q, K1916q, y_b1916, Ob1916_0, Ob1916_1⟩ := hQ1916
     have N1916 := Fr.app N1809 N1916q
     have ne_s_EMPTY_b1916 : s_EMPTY ≠ b1916 := Nat.ne_of_lt (Nat.lt_of_lt_of_le (Ef1799).lt y_b1916)
     have ne_b1320_b1916 : b1320 ≠ b1916 := Nat.ne_of_lt (Nat.lt_of_lt_of_le (Ef1801).lt y_b1916)
     have ne_t1330_b1916 : t1330 ≠ b1916 := Nat.ne_of_lt (Nat.lt_of_lt_of_le (Vf1804).lt y_b1916)
     have ne_b1795_b1916 : b1795 ≠ b1916 := Nat.ne_of_lt (Nat.lt_of_lt_of_le (Ob1795_0).lt y_b1916)
     have g_b1916 : n0 ≤ b1916 := Nat.le_trans Z1795 y_b1916
     have sz_b1916 : h0.size ≤ b1916 := Nat.le_trans K1795.1 y_b1916
     have Z1916 : n0 ≤ h1916.size := Nat.le_trans Z1795 K1916q.1
     have hk1916 := Nat.le_trans hk1795 K1916q.1
     have K1916 : Keep h0 h1916 [] := K1795.trans K1916q (fun x hx => absurd hx List.not_mem_nil)
     have sf_b1320_1916 := Safe.keep K1916q sf0 CR1795.1 sf_b1320_1795
     have CR1916 := CR1795.trans (CHr.keep K1916q sf0 CR1795.1)
     have Sf1917 : Sta Z h1916 "java/lang/String" "COMPACT_STRINGS" "Z" (.int gc1) := own_sta_keep0 Sf1796 K1916q
     have Sf1918 : Sta Z h1916 "jdk/internal/util/Preconditions" "SIOOBE_FORMATTER" "Ljava/util/function/BiFunction;" gf3 := own_sta_keep0 Sf1797 K1916q
     have Sf1919 : Sta Z h1916 "java/util/Optional" "EMPTY" "Ljava/util/Optional;" (.ref s_EMPTY) := own_sta_keep0 Sf1798 K1916q
     have Ef1920 : Exa Z h1916 s_EMPTY "java/util/Optional" := (Ef1799).keep K1916q
     have Ff1921 : Fld Z h1916 s_EMPTY "java/util/Optional" "value" "Ljava/lang/Object;" .null := (Ff1800).keep K1916q List.not_mem_nil
     have Ef1922 : Exa Z h1916 b1320 "java/lang/String" := (Ef1801).keep K1916q
     have Ff1923 : Fld Z h1916 b1320 "java/lang/String" "coder" "B" (.int 0) := (Ff1802).keep K1916q List.not_mem_nil
     have Ff1924 : Fld Z h1916 b1320 "java/lang/String" "value" "[B" (.ref t1330) := (Ff1803).keep K1916q List.not_mem_nil
     have Vf1925 : Arv Z h1916 t1330 kt1330 .byte (3 : Int32) ((([(nar .char v294), (nar .char v297), (nar .char v300)] : List Int32).map (fun c => c.toInt8.toInt32)).map Value.int) (.int 0) := (Vf1804).keep K1916q List.not_mem_nil
     have Ef1926 : Exa Z h1916 b1795 "java/util/Optional" := (Ob1795_0).keep K1916q
     have Ff1927 : Fld Z h1916 b1795 "java/util/Optional" "value" "Ljava/lang/Object;" (.ref b1320) := (Ob1795_1).keep K1916q List.not_mem_nil
     have pre1928 : own_P p e below T1916 (mkF m 183 #[vI p0, vI p1, vI p2, vI p3, vI p4, vI v273, vI v279, vI v285, vI v291, vI v294, vI v297, vI v300, vI v303, vR b306, vR b1320, vR b1341, vR b1795, vR s_EMPTY, .unset, .unset, .unset] [(.ref b1916)]) s₁ (own_E m p0 p1 p2 p3 p4) := fun t k => pre1915 t (st1916 t k)
     have pre1929 : own_P p e below T1916 (mkF m 191 #[vI p0, vI p1, vI p2, vI p3, vI p4, vI v273, vI v279, vI v285, vI v291, vI v294, vI v297, vI v300, vI v303, vR b306, vR b1320, vR b1341, vR b1795, vR s_EMPTY, vR b1916, .unset, .unset] []) s₁ (own_E m p0 p1 p2 p3 p4) := by
      intro t k
      refine pre1928 t ?_
      refine XS.goto X1916.here hx rfl (pc0 := 183) (pc' := 189) rfl (hb hby at_183) (by decide) (by decide) ?_
      refine XS.astore X1916.here hx rfl (hb hby at_189) rfl rfl (l' := #[vI p0, vI p1, vI p2, vI p3, vI p4, vI v273, vI v279, vI v285, vI v291, vI v294, vI v297, vI v300, vI v303, vR b306, vR b1320, vR b1341, vR b1795, vR s_EMPTY, vR b1916, .unset, .unset]) rfl ?_
      exact k
     obtain ⟨T1930, h1930, X1930, e1930, E1930, A1930, D1930, -, st1930⟩ := newO X1916 hx hZ hown (own_w hw 32 rfl) (own_w hw 33 rfl) (own_w hw 34 rfl) e1916 (g := (mkF m 191 #[vI p0, vI p1, vI p2, vI p3, vI p4, vI v273, vI v279, vI v285, vI v291, vI v294, vI v297, vI v300, vI v303, vR b306, vR b1320, vR b1341, vR b1795, vR s_EMPTY, vR b1916, .unset, .unset] [])) rfl (hb hby at_191) (by decide) (by decide)
     obtain ⟨b1930, g1930⟩ : ∃ z, z = h1916.size := ⟨_, rfl⟩
     rw [← g1930] at A1930 D1930 st1930
     have ne_s_EMPTY_b1930 : s_EMPTY ≠ b1930 := Nat.ne_of_lt (Nat.lt_of_lt_of_le (Ef1920).lt (Nat.le_of_eq g1930.symm))
     have ne_b1320_b1930 : b1320 ≠ b1930 := Nat.ne_of_lt (Nat.lt_of_lt_of_le (Ef1922).lt (Nat.le_of_eq g1930.symm))
     have ne_t1330_b1930 : t1330 ≠ b1930 := Nat.ne_of_lt (Nat.lt_of_lt_of_le (Vf1925).lt (Nat.le_of_eq g1930.symm))
     have ne_b1795_b1930 : b1795 ≠ b1930 := Nat.ne_of_lt (Nat.lt_of_lt_of_le (Ef1926).lt (Nat.le_of_eq g1930.symm))
     have g_b1930 : n0 ≤ b1930 := Nat.le_trans Z1916 (Nat.le_of_eq g1930.symm)
     have sz_b1930 : h0.size ≤ b1930 := Nat.le_trans K1916.1 (Nat.le_of_eq g1930.symm)
     have Z1930 : n0 ≤ h1930.size := Nat.le_trans Z1916 E1930.1
     have K1930 : Keep h0 h1930 [] := K1916.ext E1930
     have hk1930 := Nat.le_trans hk1916 E1930.1
     have sf_b1320_1930 := Safe.ext E1930 CR1916.1 sf_b1320_1916
     have CR1930 := CR1916.trans (CHr.ext E1930 CR1916.1)
     have Sf1931 : Sta Z h1930 "java/lang/String" "COMPACT_STRINGS" "Z" (.int gc1) := (Sf1917).ext E1930
     have Sf1932 : Sta Z h1930 "jdk/internal/util/Preconditions" "SIOOBE_FORMATTER" "Ljava/util/function/BiFunction;" gf3 := (Sf1918).ext E1930
     have Sf1933 : Sta Z h1930 "java/util/Optional" "EMPTY" "Ljava/util/Optional;" (.ref s_EMPTY) := (Sf1919).ext E1930
     have Ef1934 : Exa Z h1930 s_EMPTY "java/util/Optional" := (Ef1920).ext E1930
     have Ff1935 : Fld Z h1930 s_EMPTY "java/util/Optional" "value" "Ljava/lang/Object;" .null := (Ff1921).ext E1930
     have Ef1936 : Exa Z h1930 b1320 "java/lang/String" := (Ef1922).ext E1930
     have Ff1937 : Fld Z h1930 b1320 "java/lang/String" "coder" "B" (.int 0) := (Ff1923).ext E1930
     have Ff1938 : Fld Z h1930 b1320 "java/lang/String" "value" "[B" (.ref t1330) := (Ff1924).ext E1930
     have Vf1939 : Arv Z h1930 t1330 kt1330 .byte (3 : Int32) ((([(nar .char v294), (nar .char v297), (nar .char v300)] : List Int32).map (fun c => c.toInt8.toInt32)).map Value.int) (.int 0) := (Vf1925).ext E1930
     have Ef1940 : Exa Z h1930 b1795 "java/util/Optional" := (Ef1926).ext E1930
     have Ff1941 : Fld Z h1930 b1795 "java/util/Optional" "value" "Ljava/lang/Object;" (.ref b1320) := (Ff1927).ext E1930
     have Ftext_b1930 : Fld Z h1930 b1930 own_GU "text" "Ljava/lang/String;" .null := D1930 (Or.inr (own_w hw 60 rfl)) (ty := (.object "java/lang/String")) (by decide)
     have Fhost_b1930 : Fld Z h1930 b1930 own_GU "host" "Ljava/lang/String;" .null := D1930 (Or.inr (own_w hw 62 rfl)) (ty := (.object "java/lang/String")) (by decide)
     have Fport_b1930 : Fld Z h1930 b1930 own_GU "port" "Ljava/util/Optional;" .null := D1930 (Or.inr (own_w hw 64 rfl)) (ty := (.object "java/util/Optional")) (by decide)
     have Ftype_b1930 : Fld Z h1930 b1930 own_GU "type" "Ljava/util/Optional;" .null := D1930 (Or.inr (own_w hw 66 rfl)) (ty := (.object "java/util/Optional")) (by decide)
     have Fselector_b1930 : Fld Z h1930 b1930 own_GU "selector" "Ljava/lang/String;" .null := D1930 (Or.inr (own_w hw 68 rfl)) (ty := (.object "java/lang/String")) (by decide)
     have Fsearch_b1930 : Fld Z h1930 b1930 own_GU "search" "Ljava/util/Optional;" .null := D1930 (Or.inr (own_w hw 70 rfl)) (ty := (.object "java/util/Optional")) (by decide)
     have FgopherPlus_b1930 : Fld Z h1930 b1930 own_GU "gopherPlus" "Ljava/util/Optional;" .null := D1930 (Or.inr (own_w hw 72 rfl)) (ty := (.object "java/util/Optional")) (by decide)
     have pre1942 : own_P p e below T1930 (mkF m 194 #[vI p0, vI p1, vI p2, vI p3, vI p4, vI v273, vI v279, vI v285, vI v291, vI v294, vI v297, vI v300, vI v303, vR b306, vR b1320, vR b1341, vR b1795, vR s_EMPTY, vR b1916, .unset, .unset] [(.ref b1930)]) s₁ (own_E m p0 p1 p2 p3 p4) := fun t k => pre1929 t (st1930 t k)
     have pre1943 : own_P p e below T1930 (mkF m 195 #[vI p0, vI p1, vI p2, vI p3, vI p4, vI v273, vI v279, vI v285, vI v291, vI v294, vI v297, vI v300, vI v303, vR b306, vR b1320, vR b1341, vR b1795, vR s_EMPTY, vR b1916, .unset, .unset] [(.ref b1930), (.ref b1930)]) s₁ (own_E m p0 p1 p2 p3 p4) := by
      intro t k
      refine pre1942 t ?_
      refine XS.dup X1930.here hx rfl (hb hby at_194) rfl rfl ?_
      exact k
     obtain ⟨a1944, T1944, h1944, k1944, X1944, e1944, E1944, hS1944, hk1944, hZ1944, ho1944, hC1944, -, st1944⟩ := ldcOH (s := s) (vm0 := s.vm) X1930 hx hZ hown (own_w hw 35 rfl) (own_strW hw) e1930 hS0 hk1930 hEL CR1930.1 (g := (mkF m 195 #[vI p0, vI p1, vI p2, vI p3, vI p4, vI v273, vI v279, vI v285, vI v291, vI v294, vI v297, vI v300, vI v303, vR b306, vR b1320, vR b1341, vR b1795, vR s_EMPTY, vR b1916, .unset, .unset] [(.ref b1930), (.ref b1930)])) rfl (hb hby at_195) (n := 44) (by decide) (by decide) (by decide) (by decide)
     have sf_b1320_1944 := CHr.safe hC1944 (Ef1936).lt sf_b1320_1930
     have CR1944 := CR1930.trans hC1944
     have Z1944 : n0 ≤ h1944.size := Nat.le_trans Z1930 E1944.1
     have K1944 : Keep h0 h1944 [] := K1930.ext E1944
     have Sf1945 : Sta Z h1944 "java/lang/String" "COMPACT_STRINGS" "Z" (.int gc1) := (Sf1931).ext E1944
     have Sf1946 : Sta Z h1944 "jdk/internal/util/Preconditions" "SIOOBE_FORMATTER" "Ljava/util/function/BiFunction;" gf3 := (Sf1932).ext E1944
     have Sf1947 : Sta Z h1944 "java/util/Optional" "EMPTY" "Ljava/util/Optional;" (.ref s_EMPTY) := (Sf1933).ext E1944
     have Ef1948 : Exa Z h1944 s_EMPTY "java/util/Optional" := (Ef1934).ext E1944
     have Ff1949 : Fld Z h1944 s_EMPTY "java/util/Optional" "value" "Ljava/lang/Object;" .null := (Ff1935).ext E1944
     have Ef1950 : Exa Z h1944 b1320 "java/lang/String" := (Ef1936).ext E1944
     have Ff1951 : Fld Z h1944 b1320 "java/lang/String" "coder" "B" (.int 0) := (Ff1937).ext E1944
     have Ff1952 : Fld Z h1944 b1320 "java/lang/String" "value" "[B" (.ref t1330) := (Ff1938).ext E1944
     have Vf1953 : Arv Z h1944 t1330 kt1330 .byte (3 : Int32) ((([(nar .char v294), (nar .char v297), (nar .char v300)] : List Int32).map (fun c => c.toInt8.toInt32)).map Value.int) (.int 0) := (Vf1939).ext E1944
     have Ef1954 : Exa Z h1944 b1795 "java/util/Optional" := (Ef1940).ext E1944
     have Ff1955 : Fld Z h1944 b1795 "java/util/Optional" "value" "Ljava/lang/Object;" (.ref b1320) := (Ff1941).ext E1944
     have Ef1956 : Exa Z h1944 b1930 own_GU := (A1930).ext E1944
     have Ff1957 : Fld Z h1944 b1930 own_GU "text" "Ljava/lang/String;" .null := (Ftext_b1930).ext E1944
     have Ff1958 : Fld Z h1944 b1930 own_GU "host" "Ljava/lang/String;" .null := (Fhost_b1930).ext E1944
     have Ff1959 : Fld Z h1944 b1930 own_GU "port" "Ljava/util/Optional;" .null := (Fport_b1930).ext E1944
     have Ff1960 : Fld Z h1944 b1930 own_GU "type" "Ljava/util/Optional;" .null := (Ftype_b1930).ext E1944
     have Ff1961 : Fld Z h1944 b1930 own_GU "selector" "Ljava/lang/String;" .null := (Fselector_b1930).ext E1944
     have Ff1962 : Fld Z h1944 b1930 own_GU "search" "Ljava/util/Optional;" .null := (Fsearch_b1930).ext E1944
     have Ff1963 : Fld Z h1944 b1930 own_GU "gopherPlus" "Ljava/util/Optional;" .null := (FgopherPlus_b1930).ext E1944
     have pre1964 : own_P p e below T1944 (mkF m 197 #[vI p0, vI p1, vI p2, vI p3, vI p4, vI v273, vI v279, vI v285, vI v291, vI v294, vI v297, vI v300, vI v303, vR b306, vR b1320, vR b1341, vR b1795, vR s_EMPTY, vR b1916, .unset, .unset] [(.ref a1944), (.ref b1930), (.ref b1930)]) s₁ (own_E m p0 p1 p2 p3 p4) := fun t k => pre1943 t (st1944 t k)
     obtain ⟨a1965, T1965, h1965, k1965, X1965, e1965, E1965, hS1965, hk1965, hZ1965, ho1965, hC1965, -, st1965⟩ := ldcOH (s := s) (vm0 := T1944.vm) X1944 hx hZ1944 ho1944 (own_w hw 38 rfl) (own_strW hw) e1944 hS1944 hk1944 hEL CR1944.1 (g := (mkF m 197 #[vI p0, vI p1, vI p2, vI p3, vI p4, vI v273, vI v279, vI v285, vI v291, vI v294, vI v297, vI v300, vI v303, vR b306, vR b1320, vR b1341, vR b1795, vR s_EMPTY, vR b1916, .unset, .unset] [(.ref a1944), (.ref b1930), (.ref b1930)])) rfl (hb hby at_197) (n := 4) (by decide) (by decide) (by decide) (by decide)
     have sf_b1320_1965 := CHr.safe hC1965 (Ef1950).lt sf_b1320_1944
     have CR1965 := CR1944.trans hC1965
     have Z1965 : n0 ≤ h1965.size := Nat.le_trans Z1944 E1965.1
     have K1965 : Keep h0 h1965 [] := K1944.ext E1965
     have Sf1966 : Sta Z h1965 "java/lang/String" "COMPACT_STRINGS" "Z" (.int gc1) := (Sf1945).ext E1965
     have Sf1967 : Sta Z h1965 "jdk/internal/util/Preconditions" "SIOOBE_FORMATTER" "Ljava/util/function/BiFunction;" gf3 := (Sf1946).ext E1965
     have Sf1968 : Sta Z h1965 "java/util/Optional" "EMPTY" "Ljava/util/Optional;" (.ref s_EMPTY) := (Sf1947).ext E1965
     have Ef1969 : Exa Z h1965 s_EMPTY "java/util/Optional" := (Ef1948).ext E1965
     have Ff1970 : Fld Z h1965 s_EMPTY "java/util/Optional" "value" "Ljava/lang/Object;" .null := (Ff1949).ext E1965
     have Ef1971 : Exa Z h1965 b1320 "java/lang/String" := (Ef1950).ext E1965
     have Ff1972 : Fld Z h1965 b1320 "java/lang/String" "coder" "B" (.int 0) := (Ff1951).ext E1965
     have Ff1973 : Fld Z h1965 b1320 "java/lang/String" "value" "[B" (.ref t1330) := (Ff1952).ext E1965
     have Vf1974 : Arv Z h1965 t1330 kt1330 .byte (3 : Int32) ((([(nar .char v294), (nar .char v297), (nar .char v300)] : List Int32).map (fun c => c.toInt8.toInt32)).map Value.int) (.int 0) := (Vf1953).ext E1965
     have Ef1975 : Exa Z h1965 b1795 "java/util/Optional" := (Ef1954).ext E1965
     have Ff1976 : Fld Z h1965 b1795 "java/util/Optional" "value" "Ljava/lang/Object;" (.ref b1320) := (Ff1955).ext E1965
     have Ef1977 : Exa Z h1965 b1930 own_GU := (Ef1956).ext E1965
     have Ff1978 : Fld Z h1965 b1930 own_GU "text" "Ljava/lang/String;" .null := (Ff1957).ext E1965
     have Ff1979 : Fld Z h1965 b1930 own_GU "host" "Ljava/lang/String;" .null := (Ff1958).ext E1965
     have Ff1980 : Fld Z h1965 b1930 own_GU "port" "Ljava/util/Optional;" .null := (Ff1959).ext E1965
     have Ff1981 : Fld Z h1965 b1930 own_GU "type" "Ljava/util/Optional;" .null := (Ff1960).ext E1965
     have Ff1982 : Fld Z h1965 b1930 own_GU "selector" "Ljava/lang/String;" .null := (Ff1961).ext E1965
     have Ff1983 : Fld Z h1965 b1930 own_GU "search" "Ljava/util/Optional;" .null := (Ff1962).ext E1965
     have Ff1984 : Fld Z h1965 b1930 own_GU "gopherPlus" "Ljava/util/Optional;" .null := (Ff1963).ext E1965
     have pre1985 : own_P p e below T1965 (mkF m 199 #[vI p0, vI p1, vI p2, vI p3, vI p4, vI v273, vI v279, vI v285, vI v291, vI v294, vI v297, vI v300, vI v303, vR b306, vR b1320, vR b1341, vR b1795, vR s_EMPTY, vR b1916, .unset, .unset] [(.ref a1965), (.ref a1944), (.ref b1930), (.ref b1930)]) s₁ (own_E m p0 p1 p2 p3 p4) := fun t k => pre1964 t (st1965 t k)
     have pre1986 : own_P p e below T1965 (mkF m 207 #[vI p0, vI p1, vI p2, vI p3, vI p4, vI v273, vI v279, vI v285, vI v291, vI v294, vI v297, vI v300, vI v303, vR b306, vR b1320, vR b1341, vR b1795, vR s_EMPTY, vR b1916, .unset, .unset] [(.ref s_EMPTY), (.ref b1341), (.ref b1795), (.ref b1916), (.ref a1965), (.ref a1944), (.ref b1930), (.ref b1930)]) s₁ (own_E m p0 p1 p2 p3 p4) := by
      intro t k
      refine pre1985 t ?_
      refine XS.aload X1965.here hx rfl (hb hby at_199) rfl rfl ?_
      refine XS.aload X1965.here hx rfl (hb hby at_201) rfl rfl ?_
      refine XS.aload X1965.here hx rfl (hb hby at_203) rfl rfl ?_
      refine XS.aload X1965.here hx rfl (hb hby at_205) rfl rfl ?_
      exact k
     obtain ⟨_, _, ⟨T1987, L1987, k1987, n1987⟩, -, X1987, ⟨Lc1987, hQ1987, l1987, y1987, z1987⟩, st1987⟩ := Jvm.LawKit.callS X1965 hx (y := (⟨"java/util/Optional", "empty", "()Ljava/util/Optional;"⟩ : MethodName)) ho1965 (mvT hZ1965 (own_w hw 27 rfl)) (mvT hZ1965 (own_w hw 28 rfl)) (mvT hZ1965 (own_w hw 29 rfl)) (mvT hZ1965 (own_w hw 30 rfl)) (by decide) (backOf (W := 8) (rm6 l Z ar0 hw [] s_EMPTY h1965 n0 Z1965 Sf1968) hZ1965 (own_w hw 30 rfl) (own_w hw 29 rfl) (by decide) (by decide)) (g := (mkF m 207 #[vI p0, vI p1, vI p2, vI p3, vI p4, vI v273, vI v279, vI v285, vI v291, vI v294, vI v297, vI v300, vI v303, vR b306, vR b1320, vR b1341, vR b1795, vR s_EMPTY, vR b1916, .unset, .unset] [(.ref s_EMPTY), (.ref b1341), (.ref b1795), (.ref b1916), (.ref a1965), (.ref a1944), (.ref b1930), (.ref b1930)])) rfl (by rw [hml]; rfl) (argsL := []) (rest := [(.ref s_EMPTY), (.ref b1341), (.ref b1795), (.ref b1916), (.ref a1965), (.ref a1944), (.ref b1930), (.ref b1930)]) (lenOf pd_9 rfl) rfl (by show 2 * 0 + _ ≤ _; exact Nat.le_of_eq rfl) (hb hby at_207) (fun _ _ => ⟨rfl, e1965, (by decide : 12 + 0 ≤ _), (by decide : 80 + 0 ≤ _)⟩)
     dsimp only [Pt.U, Pt.locs, Pt.cells, Pt.slots] at X1987 l1987 y1987 z1987 st1987 hQ1987
     subst l1987 y1987 z1987
     obtain ⟨rfl, N1987q, e1987⟩ := hQ1987
     have N1987 := Fr.app N1916 N1987q
     have pre1988 : own_P p e below T1987 (mkF m 210 #[vI p0, vI p1, vI p2, vI p3, vI p4, vI v273, vI v279, vI v285, vI v291, vI v294, vI v297, vI v300, vI v303, vR b306, vR b1320, vR b1341, vR b1795, vR s_EMPTY, vR b1916, .unset, .unset] [(.ref s_EMPTY), (.ref s_EMPTY), (.ref b1341), (.ref b1795), (.ref b1916), (.ref a1965), (.ref a1944), (.ref b1930), (.ref b1930)]) s₁ (own_E m p0 p1 p2 p3 p4) := fun t k => pre1986 t (st1987 t k)
     obtain ⟨_, _, ⟨T1989, L1989, k1989, n1989⟩, -, X1989r, hS1989r, hg1989r, ⟨Lc1989, hQ1989, l1989, y1989, z1989, hC1989⟩, st1989⟩ := X1987.specialBackS hx (y := (⟨own_GU, "<init>", "(Ljava/lang/String;Ljava/lang/String;Ljava/util/Optional;Ljava/util/Optional;Ljava/lang/String;Ljava/util/Optional;Ljava/util/Optional;)V"⟩ : MethodName)) rfl ho1965 (mvT hZ1965 (own_w hw 39 rfl)) (mvT hZ1965 (own_w hw 40 rfl)) (mvT hZ1965 (own_w hw 41 rfl)) (by decide) (backOfSH (W := 1) (rm7 l Z ar0 hw [] b1930 a1944 a1965 b1916 b1795 b1341 s_EMPTY s_EMPTY .null .null .null .null .null .null .null h1965 n0 Z1965 Ef1977 Ff1978 Ff1979 Ff1980 Ff1981 Ff1982 Ff1983 Ff1984 g_b1930) hZ1965 (own_w hw 41 rfl) (own_w hw 34 rfl) (by decide) (by decide) hEL CR1965.1) (g := (mkF m 210 #[vI p0, vI p1, vI p2, vI p3, vI p4, vI v273, vI v279, vI v285, vI v291, vI v294, vI v297, vI v300, vI v303, vR b306, vR b1320, vR b1341, vR b1795, vR s_EMPTY, vR b1916, .unset, .unset] [(.ref s_EMPTY), (.ref s_EMPTY), (.ref b1341), (.ref b1795), (.ref b1916), (.ref a1965), (.ref a1944), (.ref b1930), (.ref b1930)])) rfl (by rw [hml]; rfl) (Steps.refl _) (a := b1930) (argsL := [(.ref a1944), (.ref a1965), (.ref b1916), (.ref b1795), (.ref b1341), (.ref s_EMPTY), (.ref s_EMPTY)]) (rest := [(.ref b1930)]) (lenOf pd_11 rfl) rfl (by show 2 * 0 + _ ≤ _; exact Nat.le_of_eq rfl) (hb hby at_210) (fun _ _ => ⟨rfl, e1987, (by decide : 12 + 14 ≤ _), (by decide : 80 + 188 ≤ _)⟩)
     dsimp only [Pt.U, Pt.locs, Pt.cells, Pt.slots] at X1989r hS1989r hg1989r l1989 y1989 z1989 st1989 hQ1989 hC1989
     subst l1989 y1989 z1989
     obtain ⟨X1989, hS1989, hZ1989, ho1989⟩ := rebS (s := s) (vm0 := T1965.vm) (n1 := T1987.heap.size) hS1965 (by rw [e1987]; first | exact hk1965 | exact Nat.le_refl _) X1989r hS1989r hg1989r hZ1965 ho1965
     obtain ⟨h1989, e1989⟩ : ∃ h, T1989.heap = h := ⟨_, rfl⟩
     rw [e1989] at hQ1989
     obtain ⟨rfl, N1989q, K1989q, Q1989_0, Q1989_1, Q1989_2, Q1989_3, Q1989_4, Q1989_5, Q1989_6, Q1989_7⟩ := hQ1989
     have N1989 := Fr.app N1987 N1989q
     have Z1989 : n0 ≤ h1989.size := Nat.le_trans Z1965 K1989q.1
     have K1989 : Keep h0 h1989 [] := K1965.trans K1989q (fun x hx => by cases List.mem_singleton.mp hx; exact Or.inr sz_b1930)
     have Sf1990 : Sta Z h1989 "java/lang/String" "COMPACT_STRINGS" "Z" (.int gc1) := own_sta_keep Sf1966 K1989q (own_ns1 (own_ns_exa Ef1977))
     have Sf1991 : Sta Z h1989 "jdk/internal/util/Preconditions" "SIOOBE_FORMATTER" "Ljava/util/function/BiFunction;" gf3 := own_sta_keep Sf1967 K1989q (own_ns1 (own_ns_exa Ef1977))
     have Sf1992 : Sta Z h1989 "java/util/Optional" "EMPTY" "Ljava/util/Optional;" (.ref s_EMPTY) := own_sta_keep Sf1968 K1989q (own_ns1 (own_ns_exa Ef1977))
     have Ef1993 : Exa Z h1989 s_EMPTY "java/util/Optional" := (Ef1969).keep K1989q
     have Ff1994 : Fld Z h1989 s_EMPTY "java/util/Optional" "value" "Ljava/lang/Object;" .null := (Ff1970).keep K1989q (fun q => absurd (List.mem_singleton.mp q) ne_s_EMPTY_b1930)
     have Ef1995 : Exa Z h1989 b1320 "java/lang/String" := (Ef1971).keep K1989q
     have Ff1996 : Fld Z h1989 b1320 "java/lang/String" "coder" "B" (.int 0) := (Ff1972).keep K1989q (fun q => absurd (List.mem_singleton.mp q) ne_b1320_b1930)
     have Ff1997 : Fld Z h1989 b1320 "java/lang/String" "value" "[B" (.ref t1330) := (Ff1973).keep K1989q (fun q => absurd (List.mem_singleton.mp q) ne_b1320_b1930)
     have Vf1998 : Arv Z h1989 t1330 kt1330 .byte (3 : Int32) ((([(nar .char v294), (nar .char v297), (nar .char v300)] : List Int32).map (fun c => c.toInt8.toInt32)).map Value.int) (.int 0) := (Vf1974).keep K1989q (fun q => absurd (List.mem_singleton.mp q) ne_t1330_b1930)
     have Ef1999 : Exa Z h1989 b1795 "java/util/Optional" := (Ef1975).keep K1989q
     have Ff2000 : Fld Z h1989 b1795 "java/util/Optional" "value" "Ljava/lang/Object;" (.ref b1320) := (Ff1976).keep K1989q (fun q => absurd (List.mem_singleton.mp q) ne_b1795_b1930)
     have Ef2001 : Exa Z h1989 b1930 own_GU := (Ef1977).keep K1989q
     rw [e1989] at hC1989
     have CR1989 := CR1965.trans hC1989
     have hk1989 : T1989.heap.size ≤ h1989.size := by rw [e1989]; exact Nat.le_refl _
     have pre2002 : own_P p e below T1989 (mkF m 213 #[vI p0, vI p1, vI p2, vI p3, vI p4, vI v273, vI v279, vI v285, vI v291, vI v294, vI v297, vI v300, vI v303, vR b306, vR b1320, vR b1341, vR b1795, vR s_EMPTY, vR b1916, .unset, .unset] [(.ref b1930)]) s₁ (own_E m p0 p1 p2 p3 p4) := fun t k => pre1988 t (st1989.trans k)
     have pre2003 : own_P p e below T1989 (mkF m 217 #[vI p0, vI p1, vI p2, vI p3, vI p4, vI v273, vI v279, vI v285, vI v291, vI v294, vI v297, vI v300, vI v303, vR b306, vR b1320, vR b1341, vR b1795, vR s_EMPTY, vR b1916, vR b1930, .unset] [(.ref b1930)]) s₁ (own_E m p0 p1 p2 p3 p4) := by
      intro t k
      refine pre2002 t ?_
      refine XS.astore X1989.here hx rfl (hb hby at_213) rfl rfl (l' := #[vI p0, vI p1, vI p2, vI p3, vI p4, vI v273, vI v279, vI v285, vI v291, vI v294, vI v297, vI v300, vI v303, vR b306, vR b1320, vR b1341, vR b1795, vR s_EMPTY, vR b1916, vR b1930, .unset]) rfl ?_
      refine XS.aload X1989.here hx rfl (hb hby at_215) rfl rfl ?_
      exact k
     obtain ⟨cq2004, kq2004, q2004a, q2004b, q2004c⟩ := isOf hZ1989 e1989 Q1989_0
     obtain ⟨_, _, ⟨T2004, L2004, k2004, n2004⟩, -, X2004r, hS2004r, hg2004r, ⟨Lc2004, hQ2004, l2004, y2004, z2004, hC2004⟩, st2004⟩ := X1989.virtualBackS hx (y := (⟨own_GU, "effectiveType", "()Ljava/lang/String;"⟩ : MethodName)) (z := (⟨own_GU, "effectiveType", "()Ljava/lang/String;"⟩ : MethodName)) ho1989 (mvT hZ1989 (own_w hw 73 rfl)) (mvT hZ1989 (own_w hw 74 rfl)) (notFace_of_selects (args := #[]) (mvT hZ1989 (own_w hw 76 rfl))) (mvT hZ1989 (own_w hw 76 rfl)) (mvT hZ1989 (own_w hw 75 rfl)) (by decide) (backOfSH (W := 0) (rm10_y l Z ar0 hw [] b1930 b1795 b1320 h1989 n0 Z1989 Q1989_0 Q1989_4 Ef1999 Ff2000 Ef1995) hZ1989 (own_w hw 77 rfl) (own_w hw 34 rfl) (by decide) (by decide) hEL CR1989.1) q2004a q2004c (g := (mkF m 217 #[vI p0, vI p1, vI p2, vI p3, vI p4, vI v273, vI v279, vI v285, vI v291, vI v294, vI v297, vI v300, vI v303, vR b306, vR b1320, vR b1341, vR b1795, vR s_EMPTY, vR b1916, vR b1930, .unset] [(.ref b1930)])) rfl (by rw [hml]; rfl) (Steps.refl _) (argsL := []) (rest := []) (lenOf pd_12 rfl) rfl (by show 2 * 0 + _ ≤ _; exact Nat.le_of_eq rfl) (hb hby at_217) (fun _ _ => ⟨rfl, e1989, (by decide : 26 + 2 ≤ _), (by decide : 268 + 8 ≤ _)⟩)
     dsimp only [Pt.U, Pt.locs, Pt.cells, Pt.slots] at X2004r hS2004r hg2004r l2004 y2004 z2004 st2004 hQ2004 hC2004
     subst l2004 y2004 z2004
     obtain ⟨X2004, hS2004, hZ2004, ho2004⟩ := rebS (s := s) (vm0 := T1989.vm) (n1 := T1989.heap.size) hS1989 (by rw [e1989]; first | exact hk1989 | exact Nat.le_refl _) X2004r hS2004r hg2004r hZ1989 ho1989
     obtain ⟨h2004, e2004⟩ : ∃ h, T2004.heap = h := ⟨_, rfl⟩
     rw [e2004] at hQ2004
     obtain ⟨rfl, N2004q, K2004q⟩ := hQ2004
     have N2004 := Fr.app N1989 N2004q
     have Z2004 : n0 ≤ h2004.size := Nat.le_trans Z1989 K2004q.1
     have K2004 : Keep h0 h2004 [] := K1989.trans K2004q (fun x hx => absurd hx List.not_mem_nil)
     have Sf2005 : Sta Z h2004 "java/lang/String" "COMPACT_STRINGS" "Z" (.int gc1) := own_sta_keep0 Sf1990 K2004q
     have Sf2006 : Sta Z h2004 "jdk/internal/util/Preconditions" "SIOOBE_FORMATTER" "Ljava/util/function/BiFunction;" gf3 := own_sta_keep0 Sf1991 K2004q
     have Sf2007 : Sta Z h2004 "java/util/Optional" "EMPTY" "Ljava/util/Optional;" (.ref s_EMPTY) := own_sta_keep0 Sf1992 K2004q
     have Ef2008 : Exa Z h2004 s_EMPTY "java/util/Optional" := (Ef1993).keep K2004q
     have Ff2009 : Fld Z h2004 s_EMPTY "java/util/Optional" "value" "Ljava/lang/Object;" .null := (Ff1994).keep K2004q List.not_mem_nil
     have Ef2010 : Exa Z h2004 b1320 "java/lang/String" := (Ef1995).keep K2004q
     have Ff2011 : Fld Z h2004 b1320 "java/lang/String" "coder" "B" (.int 0) := (Ff1996).keep K2004q List.not_mem_nil
     have Ff2012 : Fld Z h2004 b1320 "java/lang/String" "value" "[B" (.ref t1330) := (Ff1997).keep K2004q List.not_mem_nil
     have Vf2013 : Arv Z h2004 t1330 kt1330 .byte (3 : Int32) ((([(nar .char v294), (nar .char v297), (nar .char v300)] : List Int32).map (fun c => c.toInt8.toInt32)).map Value.int) (.int 0) := (Vf1998).keep K2004q List.not_mem_nil
     have Ef2014 : Exa Z h2004 b1795 "java/util/Optional" := (Ef1999).keep K2004q
     have Ff2015 : Fld Z h2004 b1795 "java/util/Optional" "value" "Ljava/lang/Object;" (.ref b1320) := (Ff2000).keep K2004q List.not_mem_nil
     have Ef2016 : Exa Z h2004 b1930 own_GU := (Q1989_0).keep K2004q
     have Ff2017 : Fld Z h2004 b1930 own_GU "text" "Ljava/lang/String;" (.ref a1944) := (Q1989_1).keep K2004q List.not_mem_nil
     have Ff2018 : Fld Z h2004 b1930 own_GU "host" "Ljava/lang/String;" (.ref a1965) := (Q1989_2).keep K2004q List.not_mem_nil
     have Ff2019 : Fld Z h2004 b1930 own_GU "port" "Ljava/util/Optional;" (.ref b1916) := (Q1989_3).keep K2004q List.not_mem_nil
     have Ff2020 : Fld Z h2004 b1930 own_GU "type" "Ljava/util/Optional;" (.ref b1795) := (Q1989_4).keep K2004q List.not_mem_nil
     have Ff2021 : Fld Z h2004 b1930 own_GU "selector" "Ljava/lang/String;" (.ref b1341) := (Q1989_5).keep K2004q List.not_mem_nil
     have Ff2022 : Fld Z h2004 b1930 own_GU "search" "Ljava/util/Optional;" (.ref s_EMPTY) := (Q1989_6).keep K2004q List.not_mem_nil
     have Ff2023 : Fld Z h2004 b1930 own_GU "gopherPlus" "Ljava/util/Optional;" (.ref s_EMPTY) := (Q1989_7).keep K2004q List.not_mem_nil
     rw [e2004] at hC2004
     have CR2004 := CR1989.trans hC2004
     have hk2004 : T2004.heap.size ≤ h2004.size := by rw [e2004]; exact Nat.le_refl _
     have pre2024 : own_P p e below T2004 (mkF m 220 #[vI p0, vI p1, vI p2, vI p3, vI p4, vI v273, vI v279, vI v285, vI v291, vI v294, vI v297, vI v300, vI v303, vR b306, vR b1320, vR b1341, vR b1795, vR s_EMPTY, vR b1916, vR b1930, .unset] [(.ref b1320)]) s₁ (own_E m p0 p1 p2 p3 p4) := fun t k => pre2003 t (st2004.trans k)
     have pre2025 : own_P p e below T2004 (mkF m 238 #[vI p0, vI p1, vI p2, vI p3, vI p4, vI v273, vI v279, vI v285, vI v291, vI v294, vI v297, vI v300, vI v303, vR b306, vR b1320, vR b1341, vR b1795, vR s_EMPTY, vR b1916, vR b1930, vR b1320] [(.ref b1320), (.ref b1320)]) s₁ (own_E m p0 p1 p2 p3 p4) := by
      intro t k
      refine pre2024 t ?_
      refine XS.astore X2004.here hx rfl (hb hby at_220) rfl rfl (l' := #[vI p0, vI p1, vI p2, vI p3, vI p4, vI v273, vI v279, vI v285, vI v291, vI v294, vI v297, vI v300, vI v303, vR b306, vR b1320, vR b1341, vR b1795, vR s_EMPTY, vR b1916, vR b1930, vR b1320]) rfl ?_
      refine XS.aload X2004.here hx rfl (hb hby at_222) rfl rfl ?_
      refine XS.ifnonnullYes X2004.here hx rfl (pc0 := 224) (pc' := 229) rfl (hb hby at_224) rfl (by decide) (by decide) ?_
      refine XS.iload X2004.here hx rfl (hb hby at_229) rfl ?_
      refine XS.ifNo X2004.here hx rfl (hb hby at_231) rfl ((if0 _ _).trans (feq hc139_1355).1) ?_
      refine XS.aload X2004.here hx rfl (hb hby at_234) rfl rfl ?_
      refine XS.aload X2004.here hx rfl (hb hby at_236) rfl rfl ?_
      exact k
     obtain ⟨cq2026, kq2026, q2026a, q2026b, q2026c⟩ := isOf hZ2004 e2004 Ef2010
     obtain ⟨_, _, ⟨T2026, L2026, k2026, n2026⟩, -, X2026, ⟨Lc2026, hQ2026, l2026, y2026, z2026⟩, st2026⟩ := X2004.virtualBack hx (y := (⟨"java/lang/String", "equals", "(Ljava/lang/Object;)Z"⟩ : MethodName)) (z := (⟨"java/lang/String", "equals", "(Ljava/lang/Object;)Z"⟩ : MethodName)) ho2004 (mvT hZ2004 (own_w hw 148 rfl)) (mvT hZ2004 (own_w hw 149 rfl)) (notFace_of_selects (args := #[]) (mvT hZ2004 (own_w hw 151 rfl))) (mvT hZ2004 (own_w hw 151 rfl)) (mvT hZ2004 (own_w hw 150 rfl)) (by decide) (backOf (W := 0) (rm27_s l Z ar0 hw [] b1320 h2004 n0 Z2004) hZ2004 (own_w hw 152 rfl) (own_w hw 3 rfl) (by decide) (by decide)) q2026a q2026c (g := (mkF m 238 #[vI p0, vI p1, vI p2, vI p3, vI p4, vI v273, vI v279, vI v285, vI v291, vI v294, vI v297, vI v300, vI v303, vR b306, vR b1320, vR b1341, vR b1795, vR s_EMPTY, vR b1916, vR b1930, vR b1320] [(.ref b1320), (.ref b1320)])) rfl (by rw [hml]; rfl) (Steps.refl _) (argsL := [(.ref b1320)]) (rest := []) (lenOf pd_15 rfl) rfl (by show 2 * 0 + _ ≤ _; exact Nat.le_of_eq rfl) (hb hby at_238) (fun _ _ => ⟨rfl, e2004, (by decide : 28 + 0 ≤ _), (by decide : 276 + 0 ≤ _)⟩)
     dsimp only [Pt.U, Pt.locs, Pt.cells, Pt.slots] at X2026 l2026 y2026 z2026 st2026 hQ2026
     subst l2026 y2026 z2026
     obtain ⟨rfl, N2026q, e2026⟩ := hQ2026
     have N2026 := Fr.app N2004 N2026q
     have pre2027 : own_P p e below T2026 (mkF m 241 #[vI p0, vI p1, vI p2, vI p3, vI p4, vI v273, vI v279, vI v285, vI v291, vI v294, vI v297, vI v300, vI v303, vR b306, vR b1320, vR b1341, vR b1795, vR s_EMPTY, vR b1916, vR b1930, vR b1320] [(.int 1)]) s₁ (own_E m p0 p1 p2 p3 p4) := fun t k => pre2025 t (st2026.trans k)
     obtain ⟨fs, hr, hrun, hended, hRW⟩ := X2026.leaveW (s := s) (vm₁ := T2004.vm) hS2004 (by rw [e2026]; first | exact hk2004 | exact Nat.le_refl _) (v := some (.int 1)) (fun h => by rw [Bd.returns] at h; cases h)
     refine ⟨_, _, pre2027 _ ?_, hrun, hended, _, _, rfl, ?_, hRW.1, hRW.2.1, hRW.2.2.1, hRW.2.2.2.mono (by decide) (by decide)⟩
     ·
      exact retN X2026 hx (t := .boolean) Bd.returns (by simp) (hb hby at_241) hr
     ·
      show Q0 Z p0 p1 p2 p3 p4 gc1 gf3 s_EMPTY h0 n0 _ T2026.heap _
      rw [e2026]
      exact ⟨rfl, N2026⟩
   ·
    have pre2028 : ∀ t, Steps p.tables e below (T1795.setTop (mkF m 162 #[vI p0, vI p1, vI p2, vI p3, vI p4, vI v273, vI v279, vI v285, vI v291, vI v294, vI v297, vI v300, vI v303, vR b306, vR b1320, vR b1341, vR b1795, .unset, .unset, .unset, .unset] [(.ref b1341)])) t → Steps p.tables e below (s₁.setTop (own_E m p0 p1 p2 p3 p4)) t := by
     intro t k
     refine pre1806 t ?_
     refine XS.ifNo X1795.here hx rfl (hb hby at_157) rfl ((if0 _ _).trans (feq hc157_1807).1) ?_
     refine XS.aload X1795.here hx rfl (hb hby at_160) rfl rfl ?_
     exact k
    obtain ⟨_, _, ⟨T2029, L2029, k2029, n2029⟩, -, X2029, ⟨Lc2029, hQ2029, l2029, y2029, z2029⟩, st2029⟩ := Jvm.LawKit.callS X1795 hx (y := (⟨"java/util/Optional", "of", "(Ljava/lang/Object;)Ljava/util/Optional;"⟩ : MethodName)) hown (mvT hZ (own_w hw 135 rfl)) (mvT hZ (own_w hw 136 rfl)) (mvT hZ (own_w hw 29 rfl)) (mvT hZ (own_w hw 137 rfl)) (by decide) (backOf (W := 0) (rm24 l Z ar0 hw [] b1341 h1795 n0 Z1795) hZ (own_w hw 137 rfl) (own_w hw 29 rfl) (by decide) (by decide)) (g := (mkF m 162 #[vI p0, vI p1, vI p2, vI p3, vI p4, vI v273, vI v279, vI v285, vI v291, vI v294, vI v297, vI v300, vI v303, vR b306, vR b1320, vR b1341, vR b1795, .unset, .unset, .unset, .unset] [(.ref b1341)])) rfl (by rw [hml]; rfl) (argsL := [(.ref b1341)]) (rest := []) (lenOf pd_10 rfl) rfl (by show 2 * 0 + _ ≤ _; exact Nat.le_of_eq rfl) (hb hby at_162) (fun _ _ => ⟨rfl, e1795, (by decide : 6 + 1 ≤ _), (by decide : 16 + 1 ≤ _)⟩)
    dsimp only [Pt.U, Pt.locs, Pt.cells, Pt.slots] at X2029 l2029 y2029 z2029 st2029 hQ2029
    subst l2029 y2029 z2029
    obtain ⟨h2029, e2029⟩ : ∃ h, T2029.heap = h := ⟨_, rfl⟩
    rw [e2029] at hQ2029
    obtain ⟨b2029, rfl, N2029q, K2029q, y_b2029, Ob2029_0, Ob2029_1⟩ := hQ2029
    have N2029 := Fr.app N1795 N2029q
    have ne_s_EMPTY_b2029 : s_EMPTY ≠ b2029 := Nat.ne_of_lt (Nat.lt_of_lt_of_le (Ef1799).lt y_b2029)
    have ne_b1320_b2029 : b1320 ≠ b2029 := Nat.ne_of_lt (Nat.lt_of_lt_of_le (Ef1801).lt y_b2029)
    have ne_t1330_b2029 : t1330 ≠ b2029 := Nat.ne_of_lt (Nat.lt_of_lt_of_le (Vf1804).lt y_b2029)
    have ne_b1795_b2029 : b1795 ≠ b2029 := Nat.ne_of_lt (Nat.lt_of_lt_of_le (Ob1795_0).lt y_b2029)
    have g_b2029 : n0 ≤ b2029 := Nat.le_trans Z1795 y_b2029
    have sz_b2029 : h0.size ≤ b2029 := Nat.le_trans K1795.1 y_b2029
    have Z2029 : n0 ≤ h2029.size := Nat.le_trans Z1795 K2029q.1
    have hk2029 := Nat.le_trans hk1795 K2029q.1
    have K2029 : Keep h0 h2029 [] := K1795.trans K2029q (fun x hx => absurd hx List.not_mem_nil)
    have sf_b1320_2029 := Safe.keep K2029q sf0 CR1795.1 sf_b1320_1795
    have CR2029 := CR1795.trans (CHr.keep K2029q sf0 CR1795.1)
    have Sf2030 : Sta Z h2029 "java/lang/String" "COMPACT_STRINGS" "Z" (.int gc1) := own_sta_keep0 Sf1796 K2029q
    have Sf2031 : Sta Z h2029 "jdk/internal/util/Preconditions" "SIOOBE_FORMATTER" "Ljava/util/function/BiFunction;" gf3 := own_sta_keep0 Sf1797 K2029q
    have Sf2032 : Sta Z h2029 "java/util/Optional" "EMPTY" "Ljava/util/Optional;" (.ref s_EMPTY) := own_sta_keep0 Sf1798 K2029q
    have Ef2033 : Exa Z h2029 s_EMPTY "java/util/Optional" := (Ef1799).keep K2029q
    have Ff2034 : Fld Z h2029 s_EMPTY "java/util/Optional" "value" "Ljava/lang/Object;" .null := (Ff1800).keep K2029q List.not_mem_nil
    have Ef2035 : Exa Z h2029 b1320 "java/lang/String" := (Ef1801).keep K2029q
    have Ff2036 : Fld Z h2029 b1320 "java/lang/String" "coder" "B" (.int 0) := (Ff1802).keep K2029q List.not_mem_nil
    have Ff2037 : Fld Z h2029 b1320 "java/lang/String" "value" "[B" (.ref t1330) := (Ff1803).keep K2029q List.not_mem_nil
    have Vf2038 : Arv Z h2029 t1330 kt1330 .byte (3 : Int32) ((([(nar .char v294), (nar .char v297), (nar .char v300)] : List Int32).map (fun c => c.toInt8.toInt32)).map Value.int) (.int 0) := (Vf1804).keep K2029q List.not_mem_nil
    have Ef2039 : Exa Z h2029 b1795 "java/util/Optional" := (Ob1795_0).keep K2029q
    have Ff2040 : Fld Z h2029 b1795 "java/util/Optional" "value" "Ljava/lang/Object;" (.ref b1320) := (Ob1795_1).keep K2029q List.not_mem_nil
    have pre2041 : own_P p e below T2029 (mkF m 165 #[vI p0, vI p1, vI p2, vI p3, vI p4, vI v273, vI v279, vI v285, vI v291, vI v294, vI v297, vI v300, vI v303, vR b306, vR b1320, vR b1341, vR b1795, .unset, .unset, .unset, .unset] [(.ref b2029)]) s₁ (own_E m p0 p1 p2 p3 p4) := fun t k => pre2028 t (st2029 t k)
    have pre2042 : own_P p e below T2029 (mkF m 175 #[vI p0, vI p1, vI p2, vI p3, vI p4, vI v273, vI v279, vI v285, vI v291, vI v294, vI v297, vI v300, vI v303, vR b306, vR b1320, vR b1341, vR b1795, vR b2029, .unset, .unset, .unset] [(.int v291)]) s₁ (own_E m p0 p1 p2 p3 p4) := by
     intro t k
     refine pre2041 t ?_
     refine XS.goto X2029.here hx rfl (pc0 := 165) (pc' := 171) rfl (hb hby at_165) (by decide) (by decide) ?_
     refine XS.astore X2029.here hx rfl (hb hby at_171) rfl rfl (l' := #[vI p0, vI p1, vI p2, vI p3, vI p4, vI v273, vI v279, vI v285, vI v291, vI v294, vI v297, vI v300, vI v303, vR b306, vR b1320, vR b1341, vR b1795, vR b2029, .unset, .unset, .unset]) rfl ?_
     refine XS.iload X2029.here hx rfl (hb hby at_173) rfl ?_
     exact k
    by_cases hc175_2043 : v291 = (0 : Int32)
    ·
     have pre2044 : ∀ t, Steps p.tables e below (T2029.setTop (mkF m 186 #[vI p0, vI p1, vI p2, vI p3, vI p4, vI v273, vI v279, vI v285, vI v291, vI v294, vI v297, vI v300, vI v303, vR b306, vR b1320, vR b1341, vR b1795, vR b2029, .unset, .unset, .unset] [])) t → Steps p.tables e below (s₁.setTop (own_E m p0 p1 p2 p3 p4)) t := by
      intro t k
      refine pre2042 t ?_
      refine XS.ifYes X2029.here hx rfl (pc0 := 175) (pc' := 186) rfl (hb hby at_175) rfl ((if0 _ _).trans (teq hc175_2043).1) (by decide) (by decide) ?_
      exact k
     obtain ⟨_, _, ⟨T2045, L2045, k2045, n2045⟩, -, X2045, ⟨Lc2045, hQ2045, l2045, y2045, z2045⟩, st2045⟩ := Jvm.LawKit.callS X2029 hx (y := (⟨"java/util/Optional", "empty", "()Ljava/util/Optional;"⟩ : MethodName)) hown (mvT hZ (own_w hw 27 rfl)) (mvT hZ (own_w hw 28 rfl)) (mvT hZ (own_w hw 29 rfl)) (mvT hZ (own_w hw 30 rfl)) (by decide) (backOf (W := 0) (rm6 l Z ar0 hw [] s_EMPTY h2029 n0 Z2029 Sf2032) hZ (own_w hw 30 rfl) (own_w hw 29 rfl) (by decide) (by decide)) (g := (mkF m 186 #[vI p0, vI p1, vI p2, vI p3, vI p4, vI v273, vI v279, vI v285, vI v291, vI v294, vI v297, vI v300, vI v303, vR b306, vR b1320, vR b1341, vR b1795, vR b2029, .unset, .unset, .unset] [])) rfl (by rw [hml]; rfl) (argsL := []) (rest := []) (lenOf pd_9 rfl) rfl (by show 2 * 0 + _ ≤ _; exact Nat.le_of_eq rfl) (hb hby at_186) (fun _ _ => ⟨rfl, e2029, (by decide : 7 + 0 ≤ _), (by decide : 17 + 0 ≤ _)⟩)
     dsimp only [Pt.U, Pt.locs, Pt.cells, Pt.slots] at X2045 l2045 y2045 z2045 st2045 hQ2045
     subst l2045 y2045 z2045
     obtain ⟨rfl, N2045q, e2045⟩ := hQ2045
     have N2045 := Fr.app N2029 N2045q
     have pre2046 : own_P p e below T2045 (mkF m 189 #[vI p0, vI p1, vI p2, vI p3, vI p4, vI v273, vI v279, vI v285, vI v291, vI v294, vI v297, vI v300, vI v303, vR b306, vR b1320, vR b1341, vR b1795, vR b2029, .unset, .unset, .unset] [(.ref s_EMPTY)]) s₁ (own_E m p0 p1 p2 p3 p4) := fun t k => pre2044 t (st2045 t k)
     have pre2047 : own_P p e below T2045 (mkF m 191 #[vI p0, vI p1, vI p2, vI p3, vI p4, vI v273, vI v279, vI v285, vI v291, vI v294, vI v297, vI v300, vI v303, vR b306, vR b1320, vR b1341, vR b1795, vR b2029, vR s_EMPTY, .unset, .unset] []) s₁ (own_E m p0 p1 p2 p3 p4) := by
      intro t k
      refine pre2046 t ?_
      refine XS.astore X2045.here hx rfl (hb hby at_189) rfl rfl (l' := #[vI p0, vI p1, vI p2, vI p3, vI p4, vI v273, vI v279, vI v285, vI v291, vI v294, vI v297, vI v300, vI v303, vR b306, vR b1320, vR b1341, vR b1795, vR b2029, vR s_EMPTY, .unset, .unset]) rfl ?_
      exact k
     obtain ⟨T2048, h2048, X2048, e2048, E2048, A2048, D2048, -, st2048⟩ := newO X2045 hx hZ hown (own_w hw 32 rfl) (own_w hw 33 rfl) (own_w hw 34 rfl) e2045 (g := (mkF m 191 #[vI p0, vI p1, vI p2, vI p3, vI p4, vI v273, vI v279, vI v285, vI v291, vI v294, vI v297, vI v300, vI v303, vR b306, vR b1320, vR b1341, vR b1795, vR b2029, vR s_EMPTY, .unset, .unset] [])) rfl (hb hby at_191) (by decide) (by decide)
     obtain ⟨b2048, g2048⟩ : ∃ z, z = h2029.size := ⟨_, rfl⟩
     rw [← g2048] at A2048 D2048 st2048
     have ne_s_EMPTY_b2048 : s_EMPTY ≠ b2048 := Nat.ne_of_lt (Nat.lt_of_lt_of_le (Ef2033).lt (Nat.le_of_eq g2048.symm))
     have ne_b1320_b2048 : b1320 ≠ b2048 := Nat.ne_of_lt (Nat.lt_of_lt_of_le (Ef2035).lt (Nat.le_of_eq g2048.symm))
     have ne_t1330_b2048 : t1330 ≠ b2048 := Nat.ne_of_lt (Nat.lt_of_lt_of_le (Vf2038).lt (Nat.le_of_eq g2048.symm))
     have ne_b1795_b2048 : b1795 ≠ b2048 := Nat.ne_of_lt (Nat.lt_of_lt_of_le (Ef2039).lt (Nat.le_of_eq g2048.symm))
     have g_b2048 : n0 ≤ b2048 := Nat.le_trans Z2029 (Nat.le_of_eq g2048.symm)
     have sz_b2048 : h0.size ≤ b2048 := Nat.le_trans K2029.1 (Nat.le_of_eq g2048.symm)
     have Z2048 : n0 ≤ h2048.size := Nat.le_trans Z2029 E2048.1
     have K2048 : Keep h0 h2048 [] := K2029.ext E2048
     have hk2048 := Nat.le_trans hk2029 E2048.1
     have sf_b1320_2048 := Safe.ext E2048 CR2029.1 sf_b1320_2029
     have CR2048 := CR2029.trans (CHr.ext E2048 CR2029.1)
     have Sf2049 : Sta Z h2048 "java/lang/String" "COMPACT_STRINGS" "Z" (.int gc1) := (Sf2030).ext E2048
     have Sf2050 : Sta Z h2048 "jdk/internal/util/Preconditions" "SIOOBE_FORMATTER" "Ljava/util/function/BiFunction;" gf3 := (Sf2031).ext E2048
     have Sf2051 : Sta Z h2048 "java/util/Optional" "EMPTY" "Ljava/util/Optional;" (.ref s_EMPTY) := (Sf2032).ext E2048
     have Ef2052 : Exa Z h2048 s_EMPTY "java/util/Optional" := (Ef2033).ext E2048
     have Ff2053 : Fld Z h2048 s_EMPTY "java/util/Optional" "value" "Ljava/lang/Object;" .null := (Ff2034).ext E2048
     have Ef2054 : Exa Z h2048 b1320 "java/lang/String" := (Ef2035).ext E2048
     have Ff2055 : Fld Z h2048 b1320 "java/lang/String" "coder" "B" (.int 0) := (Ff2036).ext E2048
     have Ff2056 : Fld Z h2048 b1320 "java/lang/String" "value" "[B" (.ref t1330) := (Ff2037).ext E2048
     have Vf2057 : Arv Z h2048 t1330 kt1330 .byte (3 : Int32) ((([(nar .char v294), (nar .char v297), (nar .char v300)] : List Int32).map (fun c => c.toInt8.toInt32)).map Value.int) (.int 0) := (Vf2038).ext E2048
     have Ef2058 : Exa Z h2048 b1795 "java/util/Optional" := (Ef2039).ext E2048
     have Ff2059 : Fld Z h2048 b1795 "java/util/Optional" "value" "Ljava/lang/Object;" (.ref b1320) := (Ff2040).ext E2048
     have Ftext_b2048 : Fld Z h2048 b2048 own_GU "text" "Ljava/lang/String;" .null := D2048 (Or.inr (own_w hw 60 rfl)) (ty := (.object "java/lang/String")) (by decide)
     have Fhost_b2048 : Fld Z h2048 b2048 own_GU "host" "Ljava/lang/String;" .null := D2048 (Or.inr (own_w hw 62 rfl)) (ty := (.object "java/lang/String")) (by decide)
     have Fport_b2048 : Fld Z h2048 b2048 own_GU "port" "Ljava/util/Optional;" .null := D2048 (Or.inr (own_w hw 64 rfl)) (ty := (.object "java/util/Optional")) (by decide)
     have Ftype_b2048 : Fld Z h2048 b2048 own_GU "type" "Ljava/util/Optional;" .null := D2048 (Or.inr (own_w hw 66 rfl)) (ty := (.object "java/util/Optional")) (by decide)
     have Fselector_b2048 : Fld Z h2048 b2048 own_GU "selector" "Ljava/lang/String;" .null := D2048 (Or.inr (own_w hw 68 rfl)) (ty := (.object "java/lang/String")) (by decide)
     have Fsearch_b2048 : Fld Z h2048 b2048 own_GU "search" "Ljava/util/Optional;" .null := D2048 (Or.inr (own_w hw 70 rfl)) (ty := (.object "java/util/Optional")) (by decide)
     have FgopherPlus_b2048 : Fld Z h2048 b2048 own_GU "gopherPlus" "Ljava/util/Optional;" .null := D2048 (Or.inr (own_w hw 72 rfl)) (ty := (.object "java/util/Optional")) (by decide)
     have pre2060 : own_P p e below T2048 (mkF m 194 #[vI p0, vI p1, vI p2, vI p3, vI p4, vI v273, vI v279, vI v285, vI v291, vI v294, vI v297, vI v300, vI v303, vR b306, vR b1320, vR b1341, vR b1795, vR b2029, vR s_EMPTY, .unset, .unset] [(.ref b2048)]) s₁ (own_E m p0 p1 p2 p3 p4) := fun t k => pre2047 t (st2048 t k)
     have pre2061 : own_P p e below T2048 (mkF m 195 #[vI p0, vI p1, vI p2, vI p3, vI p4, vI v273, vI v279, vI v285, vI v291, vI v294, vI v297, vI v300, vI v303, vR b306, vR b1320, vR b1341, vR b1795, vR b2029, vR s_EMPTY, .unset, .unset] [(.ref b2048), (.ref b2048)]) s₁ (own_E m p0 p1 p2 p3 p4) := by
      intro t k
      refine pre2060 t ?_
      refine XS.dup X2048.here hx rfl (hb hby at_194) rfl rfl ?_
      exact k
     obtain ⟨a2062, T2062, h2062, k2062, X2062, e2062, E2062, hS2062, hk2062, hZ2062, ho2062, hC2062, -, st2062⟩ := ldcOH (s := s) (vm0 := s.vm) X2048 hx hZ hown (own_w hw 35 rfl) (own_strW hw) e2048 hS0 hk2048 hEL CR2048.1 (g := (mkF m 195 #[vI p0, vI p1, vI p2, vI p3, vI p4, vI v273, vI v279, vI v285, vI v291, vI v294, vI v297, vI v300, vI v303, vR b306, vR b1320, vR b1341, vR b1795, vR b2029, vR s_EMPTY, .unset, .unset] [(.ref b2048), (.ref b2048)])) rfl (hb hby at_195) (n := 44) (by decide) (by decide) (by decide) (by decide)
     have sf_b1320_2062 := CHr.safe hC2062 (Ef2054).lt sf_b1320_2048
     have CR2062 := CR2048.trans hC2062
     have Z2062 : n0 ≤ h2062.size := Nat.le_trans Z2048 E2062.1
     have K2062 : Keep h0 h2062 [] := K2048.ext E2062
     have Sf2063 : Sta Z h2062 "java/lang/String" "COMPACT_STRINGS" "Z" (.int gc1) := (Sf2049).ext E2062
     have Sf2064 : Sta Z h2062 "jdk/internal/util/Preconditions" "SIOOBE_FORMATTER" "Ljava/util/function/BiFunction;" gf3 := (Sf2050).ext E2062
     have Sf2065 : Sta Z h2062 "java/util/Optional" "EMPTY" "Ljava/util/Optional;" (.ref s_EMPTY) := (Sf2051).ext E2062
     have Ef2066 : Exa Z h2062 s_EMPTY "java/util/Optional" := (Ef2052).ext E2062
     have Ff2067 : Fld Z h2062 s_EMPTY "java/util/Optional" "value" "Ljava/lang/Object;" .null := (Ff2053).ext E2062
     have Ef2068 : Exa Z h2062 b1320 "java/lang/String" := (Ef2054).ext E2062
     have Ff2069 : Fld Z h2062 b1320 "java/lang/String" "coder" "B" (.int 0) := (Ff2055).ext E2062
     have Ff2070 : Fld Z h2062 b1320 "java/lang/String" "value" "[B" (.ref t1330) := (Ff2056).ext E2062
     have Vf2071 : Arv Z h2062 t1330 kt1330 .byte (3 : Int32) ((([(nar .char v294), (nar .char v297), (nar .char v300)] : List Int32).map (fun c => c.toInt8.toInt32)).map Value.int) (.int 0) := (Vf2057).ext E2062
     have Ef2072 : Exa Z h2062 b1795 "java/util/Optional" := (Ef2058).ext E2062
     have Ff2073 : Fld Z h2062 b1795 "java/util/Optional" "value" "Ljava/lang/Object;" (.ref b1320) := (Ff2059).ext E2062
     have Ef2074 : Exa Z h2062 b2048 own_GU := (A2048).ext E2062
     have Ff2075 : Fld Z h2062 b2048 own_GU "text" "Ljava/lang/String;" .null := (Ftext_b2048).ext E2062
     have Ff2076 : Fld Z h2062 b2048 own_GU "host" "Ljava/lang/String;" .null := (Fhost_b2048).ext E2062
     have Ff2077 : Fld Z h2062 b2048 own_GU "port" "Ljava/util/Optional;" .null := (Fport_b2048).ext E2062
     have Ff2078 : Fld Z h2062 b2048 own_GU "type" "Ljava/util/Optional;" .null := (Ftype_b2048).ext E2062
     have Ff2079 : Fld Z h2062 b2048 own_GU "selector" "Ljava/lang/String;" .null := (Fselector_b2048).ext E2062
     have Ff2080 : Fld Z h2062 b2048 own_GU "search" "Ljava/util/Optional;" .null := (Fsearch_b2048).ext E2062
     have Ff2081 : Fld Z h2062 b2048 own_GU "gopherPlus" "Ljava/util/Optional;" .null := (FgopherPlus_b2048).ext E2062
     have pre2082 : own_P p e below T2062 (mkF m 197 #[vI p0, vI p1, vI p2, vI p3, vI p4, vI v273, vI v279, vI v285, vI v291, vI v294, vI v297, vI v300, vI v303, vR b306, vR b1320, vR b1341, vR b1795, vR b2029, vR s_EMPTY, .unset, .unset] [(.ref a2062), (.ref b2048), (.ref b2048)]) s₁ (own_E m p0 p1 p2 p3 p4) := fun t k => pre2061 t (st2062 t k)
     obtain ⟨a2083, T2083, h2083, k2083, X2083, e2083, E2083, hS2083, hk2083, hZ2083, ho2083, hC2083, -, st2083⟩ := ldcOH (s := s) (vm0 := T2062.vm) X2062 hx hZ2062 ho2062 (own_w hw 38 rfl) (own_strW hw) e2062 hS2062 hk2062 hEL CR2062.1 (g := (mkF m 197 #[vI p0, vI p1, vI p2, vI p3, vI p4, vI v273, vI v279, vI v285, vI v291, vI v294, vI v297, vI v300, vI v303, vR b306, vR b1320, vR b1341, vR b1795, vR b2029, vR s_EMPTY, .unset, .unset] [(.ref a2062), (.ref b2048), (.ref b2048)])) rfl (hb hby at_197) (n := 4) (by decide) (by decide) (by decide) (by decide)
     have sf_b1320_2083 := CHr.safe hC2083 (Ef2068).lt sf_b1320_2062
     have CR2083 := CR2062.trans hC2083
     have Z2083 : n0 ≤ h2083.size := Nat.le_trans Z2062 E2083.1
     have K2083 : Keep h0 h2083 [] := K2062.ext E2083
     have Sf2084 : Sta Z h2083 "java/lang/String" "COMPACT_STRINGS" "Z" (.int gc1) := (Sf2063).ext E2083
     have Sf2085 : Sta Z h2083 "jdk/internal/util/Preconditions" "SIOOBE_FORMATTER" "Ljava/util/function/BiFunction;" gf3 := (Sf2064).ext E2083
     have Sf2086 : Sta Z h2083 "java/util/Optional" "EMPTY" "Ljava/util/Optional;" (.ref s_EMPTY) := (Sf2065).ext E2083
     have Ef2087 : Exa Z h2083 s_EMPTY "java/util/Optional" := (Ef2066).ext E2083
     have Ff2088 : Fld Z h2083 s_EMPTY "java/util/Optional" "value" "Ljava/lang/Object;" .null := (Ff2067).ext E2083
     have Ef2089 : Exa Z h2083 b1320 "java/lang/String" := (Ef2068).ext E2083
     have Ff2090 : Fld Z h2083 b1320 "java/lang/String" "coder" "B" (.int 0) := (Ff2069).ext E2083
     have Ff2091 : Fld Z h2083 b1320 "java/lang/String" "value" "[B" (.ref t1330) := (Ff2070).ext E2083
     have Vf2092 : Arv Z h2083 t1330 kt1330 .byte (3 : Int32) ((([(nar .char v294), (nar .char v297), (nar .char v300)] : List Int32).map (fun c => c.toInt8.toInt32)).map Value.int) (.int 0) := (Vf2071).ext E2083
     have Ef2093 : Exa Z h2083 b1795 "java/util/Optional" := (Ef2072).ext E2083
     have Ff2094 : Fld Z h2083 b1795 "java/util/Optional" "value" "Ljava/lang/Object;" (.ref b1320) := (Ff2073).ext E2083
     have Ef2095 : Exa Z h2083 b2048 own_GU := (Ef2074).ext E2083
     have Ff2096 : Fld Z h2083 b2048 own_GU "text" "Ljava/lang/String;" .null := (Ff2075).ext E2083
     have Ff2097 : Fld Z h2083 b2048 own_GU "host" "Ljava/lang/String;" .null := (Ff2076).ext E2083
     have Ff2098 : Fld Z h2083 b2048 own_GU "port" "Ljava/util/Optional;" .null := (Ff2077).ext E2083
     have Ff2099 : Fld Z h2083 b2048 own_GU "type" "Ljava/util/Optional;" .null := (Ff2078).ext E2083
     have Ff2100 : Fld Z h2083 b2048 own_GU "selector" "Ljava/lang/String;" .null := (Ff2079).ext E2083
     have Ff2101 : Fld Z h2083 b2048 own_GU "search" "Ljava/util/Optional;" .null := (Ff2080).ext E2083
     have Ff2102 : Fld Z h2083 b2048 own_GU "gopherPlus" "Ljava/util/Optional;" .null := (Ff2081).ext E2083
     have pre2103 : own_P p e below T2083 (mkF m 199 #[vI p0, vI p1, vI p2, vI p3, vI p4, vI v273, vI v279, vI v285, vI v291, vI v294, vI v297, vI v300, vI v303, vR b306, vR b1320, vR b1341, vR b1795, vR b2029, vR s_EMPTY, .unset, .unset] [(.ref a2083), (.ref a2062), (.ref b2048), (.ref b2048)]) s₁ (own_E m p0 p1 p2 p3 p4) := fun t k => pre2082 t (st2083 t k)
     have pre2104 : own_P p e below T2083 (mkF m 207 #[vI p0, vI p1, vI p2, vI p3, vI p4, vI v273, vI v279, vI v285, vI v291, vI v294, vI v297, vI v300, vI v303, vR b306, vR b1320, vR b1341, vR b1795, vR b2029, vR s_EMPTY, .unset, .unset] [(.ref b2029), (.ref b1341), (.ref b1795), (.ref s_EMPTY), (.ref a2083), (.ref a2062), (.ref b2048), (.ref b2048)]) s₁ (own_E m p0 p1 p2 p3 p4) := by
      intro t k
      refine pre2103 t ?_
      refine XS.aload X2083.here hx rfl (hb hby at_199) rfl rfl ?_
      refine XS.aload X2083.here hx rfl (hb hby at_201) rfl rfl ?_
      refine XS.aload X2083.here hx rfl (hb hby at_203) rfl rfl ?_
      refine XS.aload X2083.here hx rfl (hb hby at_205) rfl rfl ?_
      exact k
     obtain ⟨_, _, ⟨T2105, L2105, k2105, n2105⟩, -, X2105, ⟨Lc2105, hQ2105, l2105, y2105, z2105⟩, st2105⟩ := Jvm.LawKit.callS X2083 hx (y := (⟨"java/util/Optional", "empty", "()Ljava/util/Optional;"⟩ : MethodName)) ho2083 (mvT hZ2083 (own_w hw 27 rfl)) (mvT hZ2083 (own_w hw 28 rfl)) (mvT hZ2083 (own_w hw 29 rfl)) (mvT hZ2083 (own_w hw 30 rfl)) (by decide) (backOf (W := 8) (rm6 l Z ar0 hw [] s_EMPTY h2083 n0 Z2083 Sf2086) hZ2083 (own_w hw 30 rfl) (own_w hw 29 rfl) (by decide) (by decide)) (g := (mkF m 207 #[vI p0, vI p1, vI p2, vI p3, vI p4, vI v273, vI v279, vI v285, vI v291, vI v294, vI v297, vI v300, vI v303, vR b306, vR b1320, vR b1341, vR b1795, vR b2029, vR s_EMPTY, .unset, .unset] [(.ref b2029), (.ref b1341), (.ref b1795), (.ref s_EMPTY), (.ref a2083), (.ref a2062), (.ref b2048), (.ref b2048)])) rfl (by rw [hml]; rfl) (argsL := []) (rest := [(.ref b2029), (.ref b1341), (.ref b1795), (.ref s_EMPTY), (.ref a2083), (.ref a2062), (.ref b2048), (.ref b2048)]) (lenOf pd_9 rfl) rfl (by show 2 * 0 + _ ≤ _; exact Nat.le_of_eq rfl) (hb hby at_207) (fun _ _ => ⟨rfl, e2083, (by decide : 12 + 0 ≤ _), (by decide : 80 + 0 ≤ _)⟩)
     dsimp only [Pt.U, Pt.locs, Pt.cells, Pt.slots] at X2105 l2105 y2105 z2105 st2105 hQ2105
     subst l2105 y2105 z2105
     obtain ⟨rfl, N2105q, e2105⟩ := hQ2105
     have N2105 := Fr.app N2045 N2105q
     have pre2106 : own_P p e below T2105 (mkF m 210 #[vI p0, vI p1, vI p2, vI p3, vI p4, vI v273, vI v279, vI v285, vI v291, vI v294, vI v297, vI v300, vI v303, vR b306, vR b1320, vR b1341, vR b1795, vR b2029, vR s_EMPTY, .unset, .unset] [(.ref s_EMPTY), (.ref b2029), (.ref b1341), (.ref b1795), (.ref s_EMPTY), (.ref a2083), (.ref a2062), (.ref b2048), (.ref b2048)]) s₁ (own_E m p0 p1 p2 p3 p4) := fun t k => pre2104 t (st2105 t k)
     obtain ⟨_, _, ⟨T2107, L2107, k2107, n2107⟩, -, X2107r, hS2107r, hg2107r, ⟨Lc2107, hQ2107, l2107, y2107, z2107, hC2107⟩, st2107⟩ := X2105.specialBackS hx (y := (⟨own_GU, "<init>", "(Ljava/lang/String;Ljava/lang/String;Ljava/util/Optional;Ljava/util/Optional;Ljava/lang/String;Ljava/util/Optional;Ljava/util/Optional;)V"⟩ : MethodName)) rfl ho2083 (mvT hZ2083 (own_w hw 39 rfl)) (mvT hZ2083 (own_w hw 40 rfl)) (mvT hZ2083 (own_w hw 41 rfl)) (by decide) (backOfSH (W := 1) (rm7 l Z ar0 hw [] b2048 a2062 a2083 s_EMPTY b1795 b1341 b2029 s_EMPTY .null .null .null .null .null .null .null h2083 n0 Z2083 Ef2095 Ff2096 Ff2097 Ff2098 Ff2099 Ff2100 Ff2101 Ff2102 g_b2048) hZ2083 (own_w hw 41 rfl) (own_w hw 34 rfl) (by decide) (by decide) hEL CR2083.1) (g := (mkF m 210 #[vI p0, vI p1, vI p2, vI p3, vI p4, vI v273, vI v279, vI v285, vI v291, vI v294, vI v297, vI v300, vI v303, vR b306, vR b1320, vR b1341, vR b1795, vR b2029, vR s_EMPTY, .unset, .unset] [(.ref s_EMPTY), (.ref b2029), (.ref b1341), (.ref b1795), (.ref s_EMPTY), (.ref a2083), (.ref a2062), (.ref b2048), (.ref b2048)])) rfl (by rw [hml]; rfl) (Steps.refl _) (a := b2048) (argsL := [(.ref a2062), (.ref a2083), (.ref s_EMPTY), (.ref b1795), (.ref b1341), (.ref b2029), (.ref s_EMPTY)]) (rest := [(.ref b2048)]) (lenOf pd_11 rfl) rfl (by show 2 * 0 + _ ≤ _; exact Nat.le_of_eq rfl) (hb hby at_210) (fun _ _ => ⟨rfl, e2105, (by decide : 12 + 14 ≤ _), (by decide : 80 + 188 ≤ _)⟩)
     dsimp only [Pt.U, Pt.locs, Pt.cells, Pt.slots] at X2107r hS2107r hg2107r l2107 y2107 z2107 st2107 hQ2107 hC2107
     subst l2107 y2107 z2107
     obtain ⟨X2107, hS2107, hZ2107, ho2107⟩ := rebS (s := s) (vm0 := T2083.vm) (n1 := T2105.heap.size) hS2083 (by rw [e2105]; first | exact hk2083 | exact Nat.le_refl _) X2107r hS2107r hg2107r hZ2083 ho2083
     obtain ⟨h2107, e2107⟩ : ∃ h, T2107.heap = h := ⟨_, rfl⟩
     rw [e2107] at hQ2107
     obtain ⟨rfl, N2107q, K2107q, Q2107_0, Q2107_1, Q2107_2, Q2107_3, Q2107_4, Q2107_5, Q2107_6, Q2107_7⟩ := hQ2107
     have N2107 := Fr.app N2105 N2107q
     have Z2107 : n0 ≤ h2107.size := Nat.le_trans Z2083 K2107q.1
     have K2107 : Keep h0 h2107 [] := K2083.trans K2107q (fun x hx => by cases List.mem_singleton.mp hx; exact Or.inr sz_b2048)
     have Sf2108 : Sta Z h2107 "java/lang/String" "COMPACT_STRINGS" "Z" (.int gc1) := own_sta_keep Sf2084 K2107q (own_ns1 (own_ns_exa Ef2095))
     have Sf2109 : Sta Z h2107 "jdk/internal/util/Preconditions" "SIOOBE_FORMATTER" "Ljava/util/function/BiFunction;" gf3 := own_sta_keep Sf2085 K2107q (own_ns1 (own_ns_exa Ef2095))
     have Sf2110 : Sta Z h2107 "java/util/Optional" "EMPTY" "Ljava/util/Optional;" (.ref s_EMPTY) := own_sta_keep Sf2086 K2107q (own_ns1 (own_ns_exa Ef2095))
     have Ef2111 : Exa Z h2107 s_EMPTY "java/util/Optional" := (Ef2087).keep K2107q
     have Ff2112 : Fld Z h2107 s_EMPTY "java/util/Optional" "value" "Ljava/lang/Object;" .null := (Ff2088).keep K2107q (fun q => absurd (List.mem_singleton.mp q) ne_s_EMPTY_b2048)
     have Ef2113 : Exa Z h2107 b1320 "java/lang/String" := (Ef2089).keep K2107q
     have Ff2114 : Fld Z h2107 b1320 "java/lang/String" "coder" "B" (.int 0) := (Ff2090).keep K2107q (fun q => absurd (List.mem_singleton.mp q) ne_b1320_b2048)
     have Ff2115 : Fld Z h2107 b1320 "java/lang/String" "value" "[B" (.ref t1330) := (Ff2091).keep K2107q (fun q => absurd (List.mem_singleton.mp q) ne_b1320_b2048)
     have Vf2116 : Arv Z h2107 t1330 kt1330 .byte (3 : Int32) ((([(nar .char v294), (nar .char v297), (nar .char v300)] : List Int32).map (fun c => c.toInt8.toInt32)).map Value.int) (.int 0) := (Vf2092).keep K2107q (fun q => absurd (List.mem_singleton.mp q) ne_t1330_b2048)
     have Ef2117 : Exa Z h2107 b1795 "java/util/Optional" := (Ef2093).keep K2107q
     have Ff2118 : Fld Z h2107 b1795 "java/util/Optional" "value" "Ljava/lang/Object;" (.ref b1320) := (Ff2094).keep K2107q (fun q => absurd (List.mem_singleton.mp q) ne_b1795_b2048)
     have Ef2119 : Exa Z h2107 b2048 own_GU := (Ef2095).keep K2107q
     rw [e2107] at hC2107
     have CR2107 := CR2083.trans hC2107
     have hk2107 : T2107.heap.size ≤ h2107.size := by rw [e2107]; exact Nat.le_refl _
     have pre2120 : own_P p e below T2107 (mkF m 213 #[vI p0, vI p1, vI p2, vI p3, vI p4, vI v273, vI v279, vI v285, vI v291, vI v294, vI v297, vI v300, vI v303, vR b306, vR b1320, vR b1341, vR b1795, vR b2029, vR s_EMPTY, .unset, .unset] [(.ref b2048)]) s₁ (own_E m p0 p1 p2 p3 p4) := fun t k => pre2106 t (st2107.trans k)
     have pre2121 : own_P p e below T2107 (mkF m 217 #[vI p0, vI p1, vI p2, vI p3, vI p4, vI v273, vI v279, vI v285, vI v291, vI v294, vI v297, vI v300, vI v303, vR b306, vR b1320, vR b1341, vR b1795, vR b2029, vR s_EMPTY, vR b2048, .unset] [(.ref b2048)]) s₁ (own_E m p0 p1 p2 p3 p4) := by
      intro t k
      refine pre2120 t ?_
      refine XS.astore X2107.here hx rfl (hb hby at_213) rfl rfl (l' := #[vI p0, vI p1, vI p2, vI p3, vI p4, vI v273, vI v279, vI v285, vI v291, vI v294, vI v297, vI v300, vI v303, vR b306, vR b1320, vR b1341, vR b1795, vR b2029, vR s_EMPTY, vR b2048, .unset]) rfl ?_
      refine XS.aload X2107.here hx rfl (hb hby at_215) rfl rfl ?_
      exact k
     obtain ⟨cq2122, kq2122, q2122a, q2122b, q2122c⟩ := isOf hZ2107 e2107 Q2107_0
     obtain ⟨_, _, ⟨T2122, L2122, k2122, n2122⟩, -, X2122r, hS2122r, hg2122r, ⟨Lc2122, hQ2122, l2122, y2122, z2122, hC2122⟩, st2122⟩ := X2107.virtualBackS hx (y := (⟨own_GU, "effectiveType", "()Ljava/lang/String;"⟩ : MethodName)) (z := (⟨own_GU, "effectiveType", "()Ljava/lang/String;"⟩ : MethodName)) ho2107 (mvT hZ2107 (own_w hw 73 rfl)) (mvT hZ2107 (own_w hw 74 rfl)) (notFace_of_selects (args := #[]) (mvT hZ2107 (own_w hw 76 rfl))) (mvT hZ2107 (own_w hw 76 rfl)) (mvT hZ2107 (own_w hw 75 rfl)) (by decide) (backOfSH (W := 0) (rm10_y l Z ar0 hw [] b2048 b1795 b1320 h2107 n0 Z2107 Q2107_0 Q2107_4 Ef2117 Ff2118 Ef2113) hZ2107 (own_w hw 77 rfl) (own_w hw 34 rfl) (by decide) (by decide) hEL CR2107.1) q2122a q2122c (g := (mkF m 217 #[vI p0, vI p1, vI p2, vI p3, vI p4, vI v273, vI v279, vI v285, vI v291, vI v294, vI v297, vI v300, vI v303, vR b306, vR b1320, vR b1341, vR b1795, vR b2029, vR s_EMPTY, vR b2048, .unset] [(.ref b2048)])) rfl (by rw [hml]; rfl) (Steps.refl _) (argsL := []) (rest := []) (lenOf pd_12 rfl) rfl (by show 2 * 0 + _ ≤ _; exact Nat.le_of_eq rfl) (hb hby at_217) (fun _ _ => ⟨rfl, e2107, (by decide : 26 + 2 ≤ _), (by decide : 268 + 8 ≤ _)⟩)
     dsimp only [Pt.U, Pt.locs, Pt.cells, Pt.slots] at X2122r hS2122r hg2122r l2122 y2122 z2122 st2122 hQ2122 hC2122
     subst l2122 y2122 z2122
     obtain ⟨X2122, hS2122, hZ2122, ho2122⟩ := rebS (s := s) (vm0 := T2107.vm) (n1 := T2107.heap.size) hS2107 (by rw [e2107]; first | exact hk2107 | exact Nat.le_refl _) X2122r hS2122r hg2122r hZ2107 ho2107
     obtain ⟨h2122, e2122⟩ : ∃ h, T2122.heap = h := ⟨_, rfl⟩
     rw [e2122] at hQ2122
     obtain ⟨rfl, N2122q, K2122q⟩ := hQ2122
     have N2122 := Fr.app N2107 N2122q
     have Z2122 : n0 ≤ h2122.size := Nat.le_trans Z2107 K2122q.1
     have K2122 : Keep h0 h2122 [] := K2107.trans K2122q (fun x hx => absurd hx List.not_mem_nil)
     have Sf2123 : Sta Z h2122 "java/lang/String" "COMPACT_STRINGS" "Z" (.int gc1) := own_sta_keep0 Sf2108 K2122q
     have Sf2124 : Sta Z h2122 "jdk/internal/util/Preconditions" "SIOOBE_FORMATTER" "Ljava/util/function/BiFunction;" gf3 := own_sta_keep0 Sf2109 K2122q
     have Sf2125 : Sta Z h2122 "java/util/Optional" "EMPTY" "Ljava/util/Optional;" (.ref s_EMPTY) := own_sta_keep0 Sf2110 K2122q
     have Ef2126 : Exa Z h2122 s_EMPTY "java/util/Optional" := (Ef2111).keep K2122q
     have Ff2127 : Fld Z h2122 s_EMPTY "java/util/Optional" "value" "Ljava/lang/Object;" .null := (Ff2112).keep K2122q List.not_mem_nil
     have Ef2128 : Exa Z h2122 b1320 "java/lang/String" := (Ef2113).keep K2122q
     have Ff2129 : Fld Z h2122 b1320 "java/lang/String" "coder" "B" (.int 0) := (Ff2114).keep K2122q List.not_mem_nil
     have Ff2130 : Fld Z h2122 b1320 "java/lang/String" "value" "[B" (.ref t1330) := (Ff2115).keep K2122q List.not_mem_nil
     have Vf2131 : Arv Z h2122 t1330 kt1330 .byte (3 : Int32) ((([(nar .char v294), (nar .char v297), (nar .char v300)] : List Int32).map (fun c => c.toInt8.toInt32)).map Value.int) (.int 0) := (Vf2116).keep K2122q List.not_mem_nil
     have Ef2132 : Exa Z h2122 b1795 "java/util/Optional" := (Ef2117).keep K2122q
     have Ff2133 : Fld Z h2122 b1795 "java/util/Optional" "value" "Ljava/lang/Object;" (.ref b1320) := (Ff2118).keep K2122q List.not_mem_nil
     have Ef2134 : Exa Z h2122 b2048 own_GU := (Q2107_0).keep K2122q
     have Ff2135 : Fld Z h2122 b2048 own_GU "text" "Ljava/lang/String;" (.ref a2062) := (Q2107_1).keep K2122q List.not_mem_nil
     have Ff2136 : Fld Z h2122 b2048 own_GU "host" "Ljava/lang/String;" (.ref a2083) := (Q2107_2).keep K2122q List.not_mem_nil
     have Ff2137 : Fld Z h2122 b2048 own_GU "port" "Ljava/util/Optional;" (.ref s_EMPTY) := (Q2107_3).keep K2122q List.not_mem_nil
     have Ff2138 : Fld Z h2122 b2048 own_GU "type" "Ljava/util/Optional;" (.ref b1795) := (Q2107_4).keep K2122q List.not_mem_nil
     have Ff2139 : Fld Z h2122 b2048 own_GU "selector" "Ljava/lang/String;" (.ref b1341) := (Q2107_5).keep K2122q List.not_mem_nil
     have Ff2140 : Fld Z h2122 b2048 own_GU "search" "Ljava/util/Optional;" (.ref b2029) := (Q2107_6).keep K2122q List.not_mem_nil
     have Ff2141 : Fld Z h2122 b2048 own_GU "gopherPlus" "Ljava/util/Optional;" (.ref s_EMPTY) := (Q2107_7).keep K2122q List.not_mem_nil
     rw [e2122] at hC2122
     have CR2122 := CR2107.trans hC2122
     have hk2122 : T2122.heap.size ≤ h2122.size := by rw [e2122]; exact Nat.le_refl _
     have pre2142 : own_P p e below T2122 (mkF m 220 #[vI p0, vI p1, vI p2, vI p3, vI p4, vI v273, vI v279, vI v285, vI v291, vI v294, vI v297, vI v300, vI v303, vR b306, vR b1320, vR b1341, vR b1795, vR b2029, vR s_EMPTY, vR b2048, .unset] [(.ref b1320)]) s₁ (own_E m p0 p1 p2 p3 p4) := fun t k => pre2121 t (st2122.trans k)
     have pre2143 : own_P p e below T2122 (mkF m 238 #[vI p0, vI p1, vI p2, vI p3, vI p4, vI v273, vI v279, vI v285, vI v291, vI v294, vI v297, vI v300, vI v303, vR b306, vR b1320, vR b1341, vR b1795, vR b2029, vR s_EMPTY, vR b2048, vR b1320] [(.ref b1320), (.ref b1320)]) s₁ (own_E m p0 p1 p2 p3 p4) := by
      intro t k
      refine pre2142 t ?_
      refine XS.astore X2122.here hx rfl (hb hby at_220) rfl rfl (l' := #[vI p0, vI p1, vI p2, vI p3, vI p4, vI v273, vI v279, vI v285, vI v291, vI v294, vI v297, vI v300, vI v303, vR b306, vR b1320, vR b1341, vR b1795, vR b2029, vR s_EMPTY, vR b2048, vR b1320]) rfl ?_
      refine XS.aload X2122.here hx rfl (hb hby at_222) rfl rfl ?_
      refine XS.ifnonnullYes X2122.here hx rfl (pc0 := 224) (pc' := 229) rfl (hb hby at_224) rfl (by decide) (by decide) ?_
      refine XS.iload X2122.here hx rfl (hb hby at_229) rfl ?_
      refine XS.ifNo X2122.here hx rfl (hb hby at_231) rfl ((if0 _ _).trans (feq hc139_1355).1) ?_
      refine XS.aload X2122.here hx rfl (hb hby at_234) rfl rfl ?_
      refine XS.aload X2122.here hx rfl (hb hby at_236) rfl rfl ?_
      exact k
     obtain ⟨cq2144, kq2144, q2144a, q2144b, q2144c⟩ := isOf hZ2122 e2122 Ef2128
     obtain ⟨_, _, ⟨T2144, L2144, k2144, n2144⟩, -, X2144, ⟨Lc2144, hQ2144, l2144, y2144, z2144⟩, st2144⟩ := X2122.virtualBack hx (y := (⟨"java/lang/String", "equals", "(Ljava/lang/Object;)Z"⟩ : MethodName)) (z := (⟨"java/lang/String", "equals", "(Ljava/lang/Object;)Z"⟩ : MethodName)) ho2122 (mvT hZ2122 (own_w hw 148 rfl)) (mvT hZ2122 (own_w hw 149 rfl)) (notFace_of_selects (args := #[]) (mvT hZ2122 (own_w hw 151 rfl))) (mvT hZ2122 (own_w hw 151 rfl)) (mvT hZ2122 (own_w hw 150 rfl)) (by decide) (backOf (W := 0) (rm27_s l Z ar0 hw [] b1320 h2122 n0 Z2122) hZ2122 (own_w hw 152 rfl) (own_w hw 3 rfl) (by decide) (by decide)) q2144a q2144c (g := (mkF m 238 #[vI p0, vI p1, vI p2, vI p3, vI p4, vI v273, vI v279, vI v285, vI v291, vI v294, vI v297, vI v300, vI v303, vR b306, vR b1320, vR b1341, vR b1795, vR b2029, vR s_EMPTY, vR b2048, vR b1320] [(.ref b1320), (.ref b1320)])) rfl (by rw [hml]; rfl) (Steps.refl _) (argsL := [(.ref b1320)]) (rest := []) (lenOf pd_15 rfl) rfl (by show 2 * 0 + _ ≤ _; exact Nat.le_of_eq rfl) (hb hby at_238) (fun _ _ => ⟨rfl, e2122, (by decide : 28 + 0 ≤ _), (by decide : 276 + 0 ≤ _)⟩)
     dsimp only [Pt.U, Pt.locs, Pt.cells, Pt.slots] at X2144 l2144 y2144 z2144 st2144 hQ2144
     subst l2144 y2144 z2144
     obtain ⟨rfl, N2144q, e2144⟩ := hQ2144
     have N2144 := Fr.app N2122 N2144q
     have pre2145 : own_P p e below T2144 (mkF m 241 #[vI p0, vI p1, vI p2, vI p3, vI p4, vI v273, vI v279, vI v285, vI v291, vI v294, vI v297, vI v300, vI v303, vR b306, vR b1320, vR b1341, vR b1795, vR b2029, vR s_EMPTY, vR b2048, vR b1320] [(.int 1)]) s₁ (own_E m p0 p1 p2 p3 p4) := fun t k => pre2143 t (st2144.trans k)
     obtain ⟨fs, hr, hrun, hended, hRW⟩ := X2144.leaveW (s := s) (vm₁ := T2122.vm) hS2122 (by rw [e2144]; first | exact hk2122 | exact Nat.le_refl _) (v := some (.int 1)) (fun h => by rw [Bd.returns] at h; cases h)
     refine ⟨_, _, pre2145 _ ?_, hrun, hended, _, _, rfl, ?_, hRW.1, hRW.2.1, hRW.2.2.1, hRW.2.2.2.mono (by decide) (by decide)⟩
     ·
      exact retN X2144 hx (t := .boolean) Bd.returns (by simp) (hb hby at_241) hr
     ·
      show Q0 Z p0 p1 p2 p3 p4 gc1 gf3 s_EMPTY h0 n0 _ T2144.heap _
      rw [e2144]
      exact ⟨rfl, N2144⟩
    ·
     have pre2146 : ∀ t, Steps p.tables e below (T2029.setTop (mkF m 180 #[vI p0, vI p1, vI p2, vI p3, vI p4, vI v273, vI v279, vI v285, vI v291, vI v294, vI v297, vI v300, vI v303, vR b306, vR b1320, vR b1341, vR b1795, vR b2029, .unset, .unset, .unset] [(.ref b1341)])) t → Steps p.tables e below (s₁.setTop (own_E m p0 p1 p2 p3 p4)) t := by
      intro t k
      refine pre2042 t ?_
      refine XS.ifNo X2029.here hx rfl (hb hby at_175) rfl ((if0 _ _).trans (feq hc175_2043).1) ?_
      refine XS.aload X2029.here hx rfl (hb hby at_178) rfl rfl ?_
      exact k
     obtain ⟨_, _, ⟨T2147, L2147, k2147, n2147⟩, -, X2147, ⟨Lc2147, hQ2147, l2147, y2147, z2147⟩, st2147⟩ := Jvm.LawKit.callS X2029 hx (y := (⟨"java/util/Optional", "of", "(Ljava/lang/Object;)Ljava/util/Optional;"⟩ : MethodName)) hown (mvT hZ (own_w hw 135 rfl)) (mvT hZ (own_w hw 136 rfl)) (mvT hZ (own_w hw 29 rfl)) (mvT hZ (own_w hw 137 rfl)) (by decide) (backOf (W := 0) (rm24 l Z ar0 hw [] b1341 h2029 n0 Z2029) hZ (own_w hw 137 rfl) (own_w hw 29 rfl) (by decide) (by decide)) (g := (mkF m 180 #[vI p0, vI p1, vI p2, vI p3, vI p4, vI v273, vI v279, vI v285, vI v291, vI v294, vI v297, vI v300, vI v303, vR b306, vR b1320, vR b1341, vR b1795, vR b2029, .unset, .unset, .unset] [(.ref b1341)])) rfl (by rw [hml]; rfl) (argsL := [(.ref b1341)]) (rest := []) (lenOf pd_10 rfl) rfl (by show 2 * 0 + _ ≤ _; exact Nat.le_of_eq rfl) (hb hby at_180) (fun _ _ => ⟨rfl, e2029, (by decide : 7 + 1 ≤ _), (by decide : 17 + 1 ≤ _)⟩)
     dsimp only [Pt.U, Pt.locs, Pt.cells, Pt.slots] at X2147 l2147 y2147 z2147 st2147 hQ2147
     subst l2147 y2147 z2147
     obtain ⟨h2147, e2147⟩ : ∃ h, T2147.heap = h := ⟨_, rfl⟩
     rw [e2147] at hQ2147
     obtain ⟨b2147, rfl, N2147q, K2147q, y_b2147, Ob2147_0, Ob2147_1⟩ := hQ2147
     have N2147 := Fr.app N2029 N2147q
     have ne_s_EMPTY_b2147 : s_EMPTY ≠ b2147 := Nat.ne_of_lt (Nat.lt_of_lt_of_le (Ef2033).lt y_b2147)
     have ne_b1320_b2147 : b1320 ≠ b2147 := Nat.ne_of_lt (Nat.lt_of_lt_of_le (Ef2035).lt y_b2147)
     have ne_t1330_b2147 : t1330 ≠ b2147 := Nat.ne_of_lt (Nat.lt_of_lt_of_le (Vf2038).lt y_b2147)
     have ne_b1795_b2147 : b1795 ≠ b2147 := Nat.ne_of_lt (Nat.lt_of_lt_of_le (Ef2039).lt y_b2147)
     have g_b2147 : n0 ≤ b2147 := Nat.le_trans Z2029 y_b2147
     have sz_b2147 : h0.size ≤ b2147 := Nat.le_trans K2029.1 y_b2147
     have Z2147 : n0 ≤ h2147.size := Nat.le_trans Z2029 K2147q.1
     have hk2147 := Nat.le_trans hk2029 K2147q.1
     have K2147 : Keep h0 h2147 [] := K2029.trans K2147q (fun x hx => absurd hx List.not_mem_nil)
     have sf_b1320_2147 := Safe.keep K2147q sf0 CR2029.1 sf_b1320_2029
     have CR2147 := CR2029.trans (CHr.keep K2147q sf0 CR2029.1)
     have Sf2148 : Sta Z h2147 "java/lang/String" "COMPACT_STRINGS" "Z" (.int gc1) := own_sta_keep0 Sf2030 K2147q
     have Sf2149 : Sta Z h2147 "jdk/internal/util/Preconditions" "SIOOBE_FORMATTER" "Ljava/util/function/BiFunction;" gf3 := own_sta_keep0 Sf2031 K2147q
     have Sf2150 : Sta Z h2147 "java/util/Optional" "EMPTY" "Ljava/util/Optional;" (.ref s_EMPTY) := own_sta_keep0 Sf2032 K2147q
     have Ef2151 : Exa Z h2147 s_EMPTY "java/util/Optional" := (Ef2033).keep K2147q
     have Ff2152 : Fld Z h2147 s_EMPTY "java/util/Optional" "value" "Ljava/lang/Object;" .null := (Ff2034).keep K2147q List.not_mem_nil
     have Ef2153 : Exa Z h2147 b1320 "java/lang/String" := (Ef2035).keep K2147q
     have Ff2154 : Fld Z h2147 b1320 "java/lang/String" "coder" "B" (.int 0) := (Ff2036).keep K2147q List.not_mem_nil
     have Ff2155 : Fld Z h2147 b1320 "java/lang/String" "value" "[B" (.ref t1330) := (Ff2037).keep K2147q List.not_mem_nil
     have Vf2156 : Arv Z h2147 t1330 kt1330 .byte (3 : Int32) ((([(nar .char v294), (nar .char v297), (nar .char v300)] : List Int32).map (fun c => c.toInt8.toInt32)).map Value.int) (.int 0) := (Vf2038).keep K2147q List.not_mem_nil
     have Ef2157 : Exa Z h2147 b1795 "java/util/Optional" := (Ef2039).keep K2147q
     have Ff2158 : Fld Z h2147 b1795 "java/util/Optional" "value" "Ljava/lang/Object;" (.ref b1320) := (Ff2040).keep K2147q List.not_mem_nil
     have pre2159 : own_P p e below T2147 (mkF m 183 #[vI p0, vI p1, vI p2, vI p3, vI p4, vI v273, vI v279, vI v285, vI v291, vI v294, vI v297, vI v300, vI v303, vR b306, vR b1320, vR b1341, vR b1795, vR b2029, .unset, .unset, .unset] [(.ref b2147)]) s₁ (own_E m p0 p1 p2 p3 p4) := fun t k => pre2146 t (st2147 t k)
     have pre2160 : own_P p e below T2147 (mkF m 191 #[vI p0, vI p1, vI p2, vI p3, vI p4, vI v273, vI v279, vI v285, vI v291, vI v294, vI v297, vI v300, vI v303, vR b306, vR b1320, vR b1341, vR b1795, vR b2029, vR b2147, .unset, .unset] []) s₁ (own_E m p0 p1 p2 p3 p4) := by
      intro t k
      refine pre2159 t ?_
      refine XS.goto X2147.here hx rfl (pc0 := 183) (pc' := 189) rfl (hb hby at_183) (by decide) (by decide) ?_
      refine XS.astore X2147.here hx rfl (hb hby at_189) rfl rfl (l' := #[vI p0, vI p1, vI p2, vI p3, vI p4, vI v273, vI v279, vI v285, vI v291, vI v294, vI v297, vI v300, vI v303, vR b306, vR b1320, vR b1341, vR b1795, vR b2029, vR b2147, .unset, .unset]) rfl ?_
      exact k
     obtain ⟨T2161, h2161, X2161, e2161, E2161, A2161, D2161, -, st2161⟩ := newO X2147 hx hZ hown (own_w hw 32 rfl) (own_w hw 33 rfl) (own_w hw 34 rfl) e2147 (g := (mkF m 191 #[vI p0, vI p1, vI p2, vI p3, vI p4, vI v273, vI v279, vI v285, vI v291, vI v294, vI v297, vI v300, vI v303, vR b306, vR b1320, vR b1341, vR b1795, vR b2029, vR b2147, .unset, .unset] [])) rfl (hb hby at_191) (by decide) (by decide)
     obtain ⟨b2161, g2161⟩ : ∃ z, z = h2147.size := ⟨_, rfl⟩
     rw [← g2161] at A2161 D2161 st2161
     have ne_s_EMPTY_b2161 : s_EMPTY ≠ b2161 := Nat.ne_of_lt (Nat.lt_of_lt_of_le (Ef2151).lt (Nat.le_of_eq g2161.symm))
     have ne_b1320_b2161 : b1320 ≠ b2161 := Nat.ne_of_lt (Nat.lt_of_lt_of_le (Ef2153).lt (Nat.le_of_eq g2161.symm))
     have ne_t1330_b2161 : t1330 ≠ b2161 := Nat.ne_of_lt (Nat.lt_of_lt_of_le (Vf2156).lt (Nat.le_of_eq g2161.symm))
     have ne_b1795_b2161 : b1795 ≠ b2161 := Nat.ne_of_lt (Nat.lt_of_lt_of_le (Ef2157).lt (Nat.le_of_eq g2161.symm))
     have g_b2161 : n0 ≤ b2161 := Nat.le_trans Z2147 (Nat.le_of_eq g2161.symm)
     have sz_b2161 : h0.size ≤ b2161 := Nat.le_trans K2147.1 (Nat.le_of_eq g2161.symm)
     have Z2161 : n0 ≤ h2161.size := Nat.le_trans Z2147 E2161.1
     have K2161 : Keep h0 h2161 [] := K2147.ext E2161
     have hk2161 := Nat.le_trans hk2147 E2161.1
     have sf_b1320_2161 := Safe.ext E2161 CR2147.1 sf_b1320_2147
     have CR2161 := CR2147.trans (CHr.ext E2161 CR2147.1)
     have Sf2162 : Sta Z h2161 "java/lang/String" "COMPACT_STRINGS" "Z" (.int gc1) := (Sf2148).ext E2161
     have Sf2163 : Sta Z h2161 "jdk/internal/util/Preconditions" "SIOOBE_FORMATTER" "Ljava/util/function/BiFunction;" gf3 := (Sf2149).ext E2161
     have Sf2164 : Sta Z h2161 "java/util/Optional" "EMPTY" "Ljava/util/Optional;" (.ref s_EMPTY) := (Sf2150).ext E2161
     have Ef2165 : Exa Z h2161 s_EMPTY "java/util/Optional" := (Ef2151).ext E2161
     have Ff2166 : Fld Z h2161 s_EMPTY "java/util/Optional" "value" "Ljava/lang/Object;" .null := (Ff2152).ext E2161
     have Ef2167 : Exa Z h2161 b1320 "java/lang/String" := (Ef2153).ext E2161
     have Ff2168 : Fld Z h2161 b1320 "java/lang/String" "coder" "B" (.int 0) := (Ff2154).ext E2161
     have Ff2169 : Fld Z h2161 b1320 "java/lang/String" "value" "[B" (.ref t1330) := (Ff2155).ext E2161
     have Vf2170 : Arv Z h2161 t1330 kt1330 .byte (3 : Int32) ((([(nar .char v294), (nar .char v297), (nar .char v300)] : List Int32).map (fun c => c.toInt8.toInt32)).map Value.int) (.int 0) := (Vf2156).ext E2161
     have Ef2171 : Exa Z h2161 b1795 "java/util/Optional" := (Ef2157).ext E2161
     have Ff2172 : Fld Z h2161 b1795 "java/util/Optional" "value" "Ljava/lang/Object;" (.ref b1320) := (Ff2158).ext E2161
     have Ftext_b2161 : Fld Z h2161 b2161 own_GU "text" "Ljava/lang/String;" .null := D2161 (Or.inr (own_w hw 60 rfl)) (ty := (.object "java/lang/String")) (by decide)
     have Fhost_b2161 : Fld Z h2161 b2161 own_GU "host" "Ljava/lang/String;" .null := D2161 (Or.inr (own_w hw 62 rfl)) (ty := (.object "java/lang/String")) (by decide)
     have Fport_b2161 : Fld Z h2161 b2161 own_GU "port" "Ljava/util/Optional;" .null := D2161 (Or.inr (own_w hw 64 rfl)) (ty := (.object "java/util/Optional")) (by decide)
     have Ftype_b2161 : Fld Z h2161 b2161 own_GU "type" "Ljava/util/Optional;" .null := D2161 (Or.inr (own_w hw 66 rfl)) (ty := (.object "java/util/Optional")) (by decide)
     have Fselector_b2161 : Fld Z h2161 b2161 own_GU "selector" "Ljava/lang/String;" .null := D2161 (Or.inr (own_w hw 68 rfl)) (ty := (.object "java/lang/String")) (by decide)
     have Fsearch_b2161 : Fld Z h2161 b2161 own_GU "search" "Ljava/util/Optional;" .null := D2161 (Or.inr (own_w hw 70 rfl)) (ty := (.object "java/util/Optional")) (by decide)
     have FgopherPlus_b2161 : Fld Z h2161 b2161 own_GU "gopherPlus" "Ljava/util/Optional;" .null := D2161 (Or.inr (own_w hw 72 rfl)) (ty := (.object "java/util/Optional")) (by decide)
     have pre2173 : own_P p e below T2161 (mkF m 194 #[vI p0, vI p1, vI p2, vI p3, vI p4, vI v273, vI v279, vI v285, vI v291, vI v294, vI v297, vI v300, vI v303, vR b306, vR b1320, vR b1341, vR b1795, vR b2029, vR b2147, .unset, .unset] [(.ref b2161)]) s₁ (own_E m p0 p1 p2 p3 p4) := fun t k => pre2160 t (st2161 t k)
     have pre2174 : own_P p e below T2161 (mkF m 195 #[vI p0, vI p1, vI p2, vI p3, vI p4, vI v273, vI v279, vI v285, vI v291, vI v294, vI v297, vI v300, vI v303, vR b306, vR b1320, vR b1341, vR b1795, vR b2029, vR b2147, .unset, .unset] [(.ref b2161), (.ref b2161)]) s₁ (own_E m p0 p1 p2 p3 p4) := by
      intro t k
      refine pre2173 t ?_
      refine XS.dup X2161.here hx rfl (hb hby at_194) rfl rfl ?_
      exact k
     obtain ⟨a2175, T2175, h2175, k2175, X2175, e2175, E2175, hS2175, hk2175, hZ2175, ho2175, hC2175, -, st2175⟩ := ldcOH (s := s) (vm0 := s.vm) X2161 hx hZ hown (own_w hw 35 rfl) (own_strW hw) e2161 hS0 hk2161 hEL CR2161.1 (g := (mkF m 195 #[vI p0, vI p1, vI p2, vI p3, vI p4, vI v273, vI v279, vI v285, vI v291, vI v294, vI v297, vI v300, vI v303, vR b306, vR b1320, vR b1341, vR b1795, vR b2029, vR b2147, .unset, .unset] [(.ref b2161), (.ref b2161)])) rfl (hb hby at_195) (n := 44) (by decide) (by decide) (by decide) (by decide)
     have sf_b1320_2175 := CHr.safe hC2175 (Ef2167).lt sf_b1320_2161
     have CR2175 := CR2161.trans hC2175
     have Z2175 : n0 ≤ h2175.size := Nat.le_trans Z2161 E2175.1
     have K2175 : Keep h0 h2175 [] := K2161.ext E2175
     have Sf2176 : Sta Z h2175 "java/lang/String" "COMPACT_STRINGS" "Z" (.int gc1) := (Sf2162).ext E2175
     have Sf2177 : Sta Z h2175 "jdk/internal/util/Preconditions" "SIOOBE_FORMATTER" "Ljava/util/function/BiFunction;" gf3 := (Sf2163).ext E2175
     have Sf2178 : Sta Z h2175 "java/util/Optional" "EMPTY" "Ljava/util/Optional;" (.ref s_EMPTY) := (Sf2164).ext E2175
     have Ef2179 : Exa Z h2175 s_EMPTY "java/util/Optional" := (Ef2165).ext E2175
     have Ff2180 : Fld Z h2175 s_EMPTY "java/util/Optional" "value" "Ljava/lang/Object;" .null := (Ff2166).ext E2175
     have Ef2181 : Exa Z h2175 b1320 "java/lang/String" := (Ef2167).ext E2175
     have Ff2182 : Fld Z h2175 b1320 "java/lang/String" "coder" "B" (.int 0) := (Ff2168).ext E2175
     have Ff2183 : Fld Z h2175 b1320 "java/lang/String" "value" "[B" (.ref t1330) := (Ff2169).ext E2175
     have Vf2184 : Arv Z h2175 t1330 kt1330 .byte (3 : Int32) ((([(nar .char v294), (nar .char v297), (nar .char v300)] : List Int32).map (fun c => c.toInt8.toInt32)).map Value.int) (.int 0) := (Vf2170).ext E2175
     have Ef2185 : Exa Z h2175 b1795 "java/util/Optional" := (Ef2171).ext E2175
     have Ff2186 : Fld Z h2175 b1795 "java/util/Optional" "value" "Ljava/lang/Object;" (.ref b1320) := (Ff2172).ext E2175
     have Ef2187 : Exa Z h2175 b2161 own_GU := (A2161).ext E2175
     have Ff2188 : Fld Z h2175 b2161 own_GU "text" "Ljava/lang/String;" .null := (Ftext_b2161).ext E2175
     have Ff2189 : Fld Z h2175 b2161 own_GU "host" "Ljava/lang/String;" .null := (Fhost_b2161).ext E2175
     have Ff2190 : Fld Z h2175 b2161 own_GU "port" "Ljava/util/Optional;" .null := (Fport_b2161).ext E2175
     have Ff2191 : Fld Z h2175 b2161 own_GU "type" "Ljava/util/Optional;" .null := (Ftype_b2161).ext E2175
     have Ff2192 : Fld Z h2175 b2161 own_GU "selector" "Ljava/lang/String;" .null := (Fselector_b2161).ext E2175
     have Ff2193 : Fld Z h2175 b2161 own_GU "search" "Ljava/util/Optional;" .null := (Fsearch_b2161).ext E2175
     have Ff2194 : Fld Z h2175 b2161 own_GU "gopherPlus" "Ljava/util/Optional;" .null := (FgopherPlus_b2161).ext E2175
     have pre2195 : own_P p e below T2175 (mkF m 197 #[vI p0, vI p1, vI p2, vI p3, vI p4, vI v273, vI v279, vI v285, vI v291, vI v294, vI v297, vI v300, vI v303, vR b306, vR b1320, vR b1341, vR b1795, vR b2029, vR b2147, .unset, .unset] [(.ref a2175), (.ref b2161), (.ref b2161)]) s₁ (own_E m p0 p1 p2 p3 p4) := fun t k => pre2174 t (st2175 t k)
     obtain ⟨a2196, T2196, h2196, k2196, X2196, e2196, E2196, hS2196, hk2196, hZ2196, ho2196, hC2196, -, st2196⟩ := ldcOH (s := s) (vm0 := T2175.vm) X2175 hx hZ2175 ho2175 (own_w hw 38 rfl) (own_strW hw) e2175 hS2175 hk2175 hEL CR2175.1 (g := (mkF m 197 #[vI p0, vI p1, vI p2, vI p3, vI p4, vI v273, vI v279, vI v285, vI v291, vI v294, vI v297, vI v300, vI v303, vR b306, vR b1320, vR b1341, vR b1795, vR b2029, vR b2147, .unset, .unset] [(.ref a2175), (.ref b2161), (.ref b2161)])) rfl (hb hby at_197) (n := 4) (by decide) (by decide) (by decide) (by decide)
     have sf_b1320_2196 := CHr.safe hC2196 (Ef2181).lt sf_b1320_2175
     have CR2196 := CR2175.trans hC2196
     have Z2196 : n0 ≤ h2196.size := Nat.le_trans Z2175 E2196.1
     have K2196 : Keep h0 h2196 [] := K2175.ext E2196
     have Sf2197 : Sta Z h2196 "java/lang/String" "COMPACT_STRINGS" "Z" (.int gc1) := (Sf2176).ext E2196
     have Sf2198 : Sta Z h2196 "jdk/internal/util/Preconditions" "SIOOBE_FORMATTER" "Ljava/util/function/BiFunction;" gf3 := (Sf2177).ext E2196
     have Sf2199 : Sta Z h2196 "java/util/Optional" "EMPTY" "Ljava/util/Optional;" (.ref s_EMPTY) := (Sf2178).ext E2196
     have Ef2200 : Exa Z h2196 s_EMPTY "java/util/Optional" := (Ef2179).ext E2196
     have Ff2201 : Fld Z h2196 s_EMPTY "java/util/Optional" "value" "Ljava/lang/Object;" .null := (Ff2180).ext E2196
     have Ef2202 : Exa Z h2196 b1320 "java/lang/String" := (Ef2181).ext E2196
     have Ff2203 : Fld Z h2196 b1320 "java/lang/String" "coder" "B" (.int 0) := (Ff2182).ext E2196
     have Ff2204 : Fld Z h2196 b1320 "java/lang/String" "value" "[B" (.ref t1330) := (Ff2183).ext E2196
     have Vf2205 : Arv Z h2196 t1330 kt1330 .byte (3 : Int32) ((([(nar .char v294), (nar .char v297), (nar .char v300)] : List Int32).map (fun c => c.toInt8.toInt32)).map Value.int) (.int 0) := (Vf2184).ext E2196
     have Ef2206 : Exa Z h2196 b1795 "java/util/Optional" := (Ef2185).ext E2196
     have Ff2207 : Fld Z h2196 b1795 "java/util/Optional" "value" "Ljava/lang/Object;" (.ref b1320) := (Ff2186).ext E2196
     have Ef2208 : Exa Z h2196 b2161 own_GU := (Ef2187).ext E2196
     have Ff2209 : Fld Z h2196 b2161 own_GU "text" "Ljava/lang/String;" .null := (Ff2188).ext E2196
     have Ff2210 : Fld Z h2196 b2161 own_GU "host" "Ljava/lang/String;" .null := (Ff2189).ext E2196
     have Ff2211 : Fld Z h2196 b2161 own_GU "port" "Ljava/util/Optional;" .null := (Ff2190).ext E2196
     have Ff2212 : Fld Z h2196 b2161 own_GU "type" "Ljava/util/Optional;" .null := (Ff2191).ext E2196
     have Ff2213 : Fld Z h2196 b2161 own_GU "selector" "Ljava/lang/String;" .null := (Ff2192).ext E2196
     have Ff2214 : Fld Z h2196 b2161 own_GU "search" "Ljava/util/Optional;" .null := (Ff2193).ext E2196
     have Ff2215 : Fld Z h2196 b2161 own_GU "gopherPlus" "Ljava/util/Optional;" .null := (Ff2194).ext E2196
     have pre2216 : own_P p e below T2196 (mkF m 199 #[vI p0, vI p1, vI p2, vI p3, vI p4, vI v273, vI v279, vI v285, vI v291, vI v294, vI v297, vI v300, vI v303, vR b306, vR b1320, vR b1341, vR b1795, vR b2029, vR b2147, .unset, .unset] [(.ref a2196), (.ref a2175), (.ref b2161), (.ref b2161)]) s₁ (own_E m p0 p1 p2 p3 p4) := fun t k => pre2195 t (st2196 t k)
     have pre2217 : own_P p e below T2196 (mkF m 207 #[vI p0, vI p1, vI p2, vI p3, vI p4, vI v273, vI v279, vI v285, vI v291, vI v294, vI v297, vI v300, vI v303, vR b306, vR b1320, vR b1341, vR b1795, vR b2029, vR b2147, .unset, .unset] [(.ref b2029), (.ref b1341), (.ref b1795), (.ref b2147), (.ref a2196), (.ref a2175), (.ref b2161), (.ref b2161)]) s₁ (own_E m p0 p1 p2 p3 p4) := by
      intro t k
      refine pre2216 t ?_
      refine XS.aload X2196.here hx rfl (hb hby at_199) rfl rfl ?_
      refine XS.aload X2196.here hx rfl (hb hby at_201) rfl rfl ?_
      refine XS.aload X2196.here hx rfl (hb hby at_203) rfl rfl ?_
      refine XS.aload X2196.here hx rfl (hb hby at_205) rfl rfl ?_
      exact k
     obtain ⟨_, _, ⟨T2218, L2218, k2218, n2218⟩, -, X2218, ⟨Lc2218, hQ2218, l2218, y2218, z2218⟩, st2218⟩ := Jvm.LawKit.callS X2196 hx (y := (⟨"java/util/Optional", "empty", "()Ljava/util/Optional;"⟩ : MethodName)) ho2196 (mvT hZ2196 (own_w hw 27 rfl)) (mvT hZ2196 (own_w hw 28 rfl)) (mvT hZ2196 (own_w hw 29 rfl)) (mvT hZ2196 (own_w hw 30 rfl)) (by decide) (backOf (W := 8) (rm6 l Z ar0 hw [] s_EMPTY h2196 n0 Z2196 Sf2199) hZ2196 (own_w hw 30 rfl) (own_w hw 29 rfl) (by decide) (by decide)) (g := (mkF m 207 #[vI p0, vI p1, vI p2, vI p3, vI p4, vI v273, vI v279, vI v285, vI v291, vI v294, vI v297, vI v300, vI v303, vR b306, vR b1320, vR b1341, vR b1795, vR b2029, vR b2147, .unset, .unset] [(.ref b2029), (.ref b1341), (.ref b1795), (.ref b2147), (.ref a2196), (.ref a2175), (.ref b2161), (.ref b2161)])) rfl (by rw [hml]; rfl) (argsL := []) (rest := [(.ref b2029), (.ref b1341), (.ref b1795), (.ref b2147), (.ref a2196), (.ref a2175), (.ref b2161), (.ref b2161)]) (lenOf pd_9 rfl) rfl (by show 2 * 0 + _ ≤ _; exact Nat.le_of_eq rfl) (hb hby at_207) (fun _ _ => ⟨rfl, e2196, (by decide : 13 + 0 ≤ _), (by decide : 81 + 0 ≤ _)⟩)
     dsimp only [Pt.U, Pt.locs, Pt.cells, Pt.slots] at X2218 l2218 y2218 z2218 st2218 hQ2218
     subst l2218 y2218 z2218
     obtain ⟨rfl, N2218q, e2218⟩ := hQ2218
     have N2218 := Fr.app N2147 N2218q
     have pre2219 : own_P p e below T2218 (mkF m 210 #[vI p0, vI p1, vI p2, vI p3, vI p4, vI v273, vI v279, vI v285, vI v291, vI v294, vI v297, vI v300, vI v303, vR b306, vR b1320, vR b1341, vR b1795, vR b2029, vR b2147, .unset, .unset] [(.ref s_EMPTY), (.ref b2029), (.ref b1341), (.ref b1795), (.ref b2147), (.ref a2196), (.ref a2175), (.ref b2161), (.ref b2161)]) s₁ (own_E m p0 p1 p2 p3 p4) := fun t k => pre2217 t (st2218 t k)
     obtain ⟨_, _, ⟨T2220, L2220, k2220, n2220⟩, -, X2220r, hS2220r, hg2220r, ⟨Lc2220, hQ2220, l2220, y2220, z2220, hC2220⟩, st2220⟩ := X2218.specialBackS hx (y := (⟨own_GU, "<init>", "(Ljava/lang/String;Ljava/lang/String;Ljava/util/Optional;Ljava/util/Optional;Ljava/lang/String;Ljava/util/Optional;Ljava/util/Optional;)V"⟩ : MethodName)) rfl ho2196 (mvT hZ2196 (own_w hw 39 rfl)) (mvT hZ2196 (own_w hw 40 rfl)) (mvT hZ2196 (own_w hw 41 rfl)) (by decide) (backOfSH (W := 1) (rm7 l Z ar0 hw [] b2161 a2175 a2196 b2147 b1795 b1341 b2029 s_EMPTY .null .null .null .null .null .null .null h2196 n0 Z2196 Ef2208 Ff2209 Ff2210 Ff2211 Ff2212 Ff2213 Ff2214 Ff2215 g_b2161) hZ2196 (own_w hw 41 rfl) (own_w hw 34 rfl) (by decide) (by decide) hEL CR2196.1) (g := (mkF m 210 #[vI p0, vI p1, vI p2, vI p3, vI p4, vI v273, vI v279, vI v285, vI v291, vI v294, vI v297, vI v300, vI v303, vR b306, vR b1320, vR b1341, vR b1795, vR b2029, vR b2147, .unset, .unset] [(.ref s_EMPTY), (.ref b2029), (.ref b1341), (.ref b1795), (.ref b2147), (.ref a2196), (.ref a2175), (.ref b2161), (.ref b2161)])) rfl (by rw [hml]; rfl) (Steps.refl _) (a := b2161) (argsL := [(.ref a2175), (.ref a2196), (.ref b2147), (.ref b1795), (.ref b1341), (.ref b2029), (.ref s_EMPTY)]) (rest := [(.ref b2161)]) (lenOf pd_11 rfl) rfl (by show 2 * 0 + _ ≤ _; exact Nat.le_of_eq rfl) (hb hby at_210) (fun _ _ => ⟨rfl, e2218, (by decide : 13 + 14 ≤ _), (by decide : 81 + 188 ≤ _)⟩)
     dsimp only [Pt.U, Pt.locs, Pt.cells, Pt.slots] at X2220r hS2220r hg2220r l2220 y2220 z2220 st2220 hQ2220 hC2220
     subst l2220 y2220 z2220
     obtain ⟨X2220, hS2220, hZ2220, ho2220⟩ := rebS (s := s) (vm0 := T2196.vm) (n1 := T2218.heap.size) hS2196 (by rw [e2218]; first | exact hk2196 | exact Nat.le_refl _) X2220r hS2220r hg2220r hZ2196 ho2196
     obtain ⟨h2220, e2220⟩ : ∃ h, T2220.heap = h := ⟨_, rfl⟩
     rw [e2220] at hQ2220
     obtain ⟨rfl, N2220q, K2220q, Q2220_0, Q2220_1, Q2220_2, Q2220_3, Q2220_4, Q2220_5, Q2220_6, Q2220_7⟩ := hQ2220
     have N2220 := Fr.app N2218 N2220q
     have Z2220 : n0 ≤ h2220.size := Nat.le_trans Z2196 K2220q.1
     have K2220 : Keep h0 h2220 [] := K2196.trans K2220q (fun x hx => by cases List.mem_singleton.mp hx; exact Or.inr sz_b2161)
     have Sf2221 : Sta Z h2220 "java/lang/String" "COMPACT_STRINGS" "Z" (.int gc1) := own_sta_keep Sf2197 K2220q (own_ns1 (own_ns_exa Ef2208))
     have Sf2222 : Sta Z h2220 "jdk/internal/util/Preconditions" "SIOOBE_FORMATTER" "Ljava/util/function/BiFunction;" gf3 := own_sta_keep Sf2198 K2220q (own_ns1 (own_ns_exa Ef2208))
     have Sf2223 : Sta Z h2220 "java/util/Optional" "EMPTY" "Ljava/util/Optional;" (.ref s_EMPTY) := own_sta_keep Sf2199 K2220q (own_ns1 (own_ns_exa Ef2208))
     have Ef2224 : Exa Z h2220 s_EMPTY "java/util/Optional" := (Ef2200).keep K2220q
     have Ff2225 : Fld Z h2220 s_EMPTY "java/util/Optional" "value" "Ljava/lang/Object;" .null := (Ff2201).keep K2220q (fun q => absurd (List.mem_singleton.mp q) ne_s_EMPTY_b2161)
     have Ef2226 : Exa Z h2220 b1320 "java/lang/String" := (Ef2202).keep K2220q
     have Ff2227 : Fld Z h2220 b1320 "java/lang/String" "coder" "B" (.int 0) := (Ff2203).keep K2220q (fun q => absurd (List.mem_singleton.mp q) ne_b1320_b2161)
     have Ff2228 : Fld Z h2220 b1320 "java/lang/String" "value" "[B" (.ref t1330) := (Ff2204).keep K2220q (fun q => absurd (List.mem_singleton.mp q) ne_b1320_b2161)
     have Vf2229 : Arv Z h2220 t1330 kt1330 .byte (3 : Int32) ((([(nar .char v294), (nar .char v297), (nar .char v300)] : List Int32).map (fun c => c.toInt8.toInt32)).map Value.int) (.int 0) := (Vf2205).keep K2220q (fun q => absurd (List.mem_singleton.mp q) ne_t1330_b2161)
     have Ef2230 : Exa Z h2220 b1795 "java/util/Optional" := (Ef2206).keep K2220q
     have Ff2231 : Fld Z h2220 b1795 "java/util/Optional" "value" "Ljava/lang/Object;" (.ref b1320) := (Ff2207).keep K2220q (fun q => absurd (List.mem_singleton.mp q) ne_b1795_b2161)
     have Ef2232 : Exa Z h2220 b2161 own_GU := (Ef2208).keep K2220q
     rw [e2220] at hC2220
     have CR2220 := CR2196.trans hC2220
     have hk2220 : T2220.heap.size ≤ h2220.size := by rw [e2220]; exact Nat.le_refl _
     have pre2233 : own_P p e below T2220 (mkF m 213 #[vI p0, vI p1, vI p2, vI p3, vI p4, vI v273, vI v279, vI v285, vI v291, vI v294, vI v297, vI v300, vI v303, vR b306, vR b1320, vR b1341, vR b1795, vR b2029, vR b2147, .unset, .unset] [(.ref b2161)]) s₁ (own_E m p0 p1 p2 p3 p4) := fun t k => pre2219 t (st2220.trans k)
     have pre2234 : own_P p e below T2220 (mkF m 217 #[vI p0, vI p1, vI p2, vI p3, vI p4, vI v273, vI v279, vI v285, vI v291, vI v294, vI v297, vI v300, vI v303, vR b306, vR b1320, vR b1341, vR b1795, vR b2029, vR b2147, vR b2161, .unset] [(.ref b2161)]) s₁ (own_E m p0 p1 p2 p3 p4) := by
      intro t k
      refine pre2233 t ?_
      refine XS.astore X2220.here hx rfl (hb hby at_213) rfl rfl (l' := #[vI p0, vI p1, vI p2, vI p3, vI p4, vI v273, vI v279, vI v285, vI v291, vI v294, vI v297, vI v300, vI v303, vR b306, vR b1320, vR b1341, vR b1795, vR b2029, vR b2147, vR b2161, .unset]) rfl ?_
      refine XS.aload X2220.here hx rfl (hb hby at_215) rfl rfl ?_
      exact k
     obtain ⟨cq2235, kq2235, q2235a, q2235b, q2235c⟩ := isOf hZ2220 e2220 Q2220_0
     obtain ⟨_, _, ⟨T2235, L2235, k2235, n2235⟩, -, X2235r, hS2235r, hg2235r, ⟨Lc2235, hQ2235, l2235, y2235, z2235, hC2235⟩, st2235⟩ := X2220.virtualBackS hx (y := (⟨own_GU, "effectiveType", "()Ljava/lang/String;"⟩ : MethodName)) (z := (⟨own_GU, "effectiveType", "()Ljava/lang/String;"⟩ : MethodName)) ho2220 (mvT hZ2220 (own_w hw 73 rfl)) (mvT hZ2220 (own_w hw 74 rfl)) (notFace_of_selects (args := #[]) (mvT hZ2220 (own_w hw 76 rfl))) (mvT hZ2220 (own_w hw 76 rfl)) (mvT hZ2220 (own_w hw 75 rfl)) (by decide) (backOfSH (W := 0) (rm10_y l Z ar0 hw [] b2161 b1795 b1320 h2220 n0 Z2220 Q2220_0 Q2220_4 Ef2230 Ff2231 Ef2226) hZ2220 (own_w hw 77 rfl) (own_w hw 34 rfl) (by decide) (by decide) hEL CR2220.1) q2235a q2235c (g := (mkF m 217 #[vI p0, vI p1, vI p2, vI p3, vI p4, vI v273, vI v279, vI v285, vI v291, vI v294, vI v297, vI v300, vI v303, vR b306, vR b1320, vR b1341, vR b1795, vR b2029, vR b2147, vR b2161, .unset] [(.ref b2161)])) rfl (by rw [hml]; rfl) (Steps.refl _) (argsL := []) (rest := []) (lenOf pd_12 rfl) rfl (by show 2 * 0 + _ ≤ _; exact Nat.le_of_eq rfl) (hb hby at_217) (fun _ _ => ⟨rfl, e2220, (by decide : 27 + 2 ≤ _), (by decide : 269 + 8 ≤ _)⟩)
     dsimp only [Pt.U, Pt.locs, Pt.cells, Pt.slots] at X2235r hS2235r hg2235r l2235 y2235 z2235 st2235 hQ2235 hC2235
     subst l2235 y2235 z2235
     obtain ⟨X2235, hS2235, hZ2235, ho2235⟩ := rebS (s := s) (vm0 := T2220.vm) (n1 := T2220.heap.size) hS2220 (by rw [e2220]; first | exact hk2220 | exact Nat.le_refl _) X2235r hS2235r hg2235r hZ2220 ho2220
     obtain ⟨h2235, e2235⟩ : ∃ h, T2235.heap = h := ⟨_, rfl⟩
     rw [e2235] at hQ2235
     obtain ⟨rfl, N2235q, K2235q⟩ := hQ2235
     have N2235 := Fr.app N2220 N2235q
     have Z2235 : n0 ≤ h2235.size := Nat.le_trans Z2220 K2235q.1
     have K2235 : Keep h0 h2235 [] := K2220.trans K2235q (fun x hx => absurd hx List.not_mem_nil)
     have Sf2236 : Sta Z h2235 "java/lang/String" "COMPACT_STRINGS" "Z" (.int gc1) := own_sta_keep0 Sf2221 K2235q
     have Sf2237 : Sta Z h2235 "jdk/internal/util/Preconditions" "SIOOBE_FORMATTER" "Ljava/util/function/BiFunction;" gf3 := own_sta_keep0 Sf2222 K2235q
     have Sf2238 : Sta Z h2235 "java/util/Optional" "EMPTY" "Ljava/util/Optional;" (.ref s_EMPTY) := own_sta_keep0 Sf2223 K2235q
     have Ef2239 : Exa Z h2235 s_EMPTY "java/util/Optional" := (Ef2224).keep K2235q
     have Ff2240 : Fld Z h2235 s_EMPTY "java/util/Optional" "value" "Ljava/lang/Object;" .null := (Ff2225).keep K2235q List.not_mem_nil
     have Ef2241 : Exa Z h2235 b1320 "java/lang/String" := (Ef2226).keep K2235q
     have Ff2242 : Fld Z h2235 b1320 "java/lang/String" "coder" "B" (.int 0) := (Ff2227).keep K2235q List.not_mem_nil
     have Ff2243 : Fld Z h2235 b1320 "java/lang/String" "value" "[B" (.ref t1330) := (Ff2228).keep K2235q List.not_mem_nil
     have Vf2244 : Arv Z h2235 t1330 kt1330 .byte (3 : Int32) ((([(nar .char v294), (nar .char v297), (nar .char v300)] : List Int32).map (fun c => c.toInt8.toInt32)).map Value.int) (.int 0) := (Vf2229).keep K2235q List.not_mem_nil
     have Ef2245 : Exa Z h2235 b1795 "java/util/Optional" := (Ef2230).keep K2235q
     have Ff2246 : Fld Z h2235 b1795 "java/util/Optional" "value" "Ljava/lang/Object;" (.ref b1320) := (Ff2231).keep K2235q List.not_mem_nil
     have Ef2247 : Exa Z h2235 b2161 own_GU := (Q2220_0).keep K2235q
     have Ff2248 : Fld Z h2235 b2161 own_GU "text" "Ljava/lang/String;" (.ref a2175) := (Q2220_1).keep K2235q List.not_mem_nil
     have Ff2249 : Fld Z h2235 b2161 own_GU "host" "Ljava/lang/String;" (.ref a2196) := (Q2220_2).keep K2235q List.not_mem_nil
     have Ff2250 : Fld Z h2235 b2161 own_GU "port" "Ljava/util/Optional;" (.ref b2147) := (Q2220_3).keep K2235q List.not_mem_nil
     have Ff2251 : Fld Z h2235 b2161 own_GU "type" "Ljava/util/Optional;" (.ref b1795) := (Q2220_4).keep K2235q List.not_mem_nil
     have Ff2252 : Fld Z h2235 b2161 own_GU "selector" "Ljava/lang/String;" (.ref b1341) := (Q2220_5).keep K2235q List.not_mem_nil
     have Ff2253 : Fld Z h2235 b2161 own_GU "search" "Ljava/util/Optional;" (.ref b2029) := (Q2220_6).keep K2235q List.not_mem_nil
     have Ff2254 : Fld Z h2235 b2161 own_GU "gopherPlus" "Ljava/util/Optional;" (.ref s_EMPTY) := (Q2220_7).keep K2235q List.not_mem_nil
     rw [e2235] at hC2235
     have CR2235 := CR2220.trans hC2235
     have hk2235 : T2235.heap.size ≤ h2235.size := by rw [e2235]; exact Nat.le_refl _
     have pre2255 : own_P p e below T2235 (mkF m 220 #[vI p0, vI p1, vI p2, vI p3, vI p4, vI v273, vI v279, vI v285, vI v291, vI v294, vI v297, vI v300, vI v303, vR b306, vR b1320, vR b1341, vR b1795, vR b2029, vR b2147, vR b2161, .unset] [(.ref b1320)]) s₁ (own_E m p0 p1 p2 p3 p4) := fun t k => pre2234 t (st2235.trans k)
     have pre2256 : own_P p e below T2235 (mkF m 238 #[vI p0, vI p1, vI p2, vI p3, vI p4, vI v273, vI v279, vI v285, vI v291, vI v294, vI v297, vI v300, vI v303, vR b306, vR b1320, vR b1341, vR b1795, vR b2029, vR b2147, vR b2161, vR b1320] [(.ref b1320), (.ref b1320)]) s₁ (own_E m p0 p1 p2 p3 p4) := by
      intro t k
      refine pre2255 t ?_
      refine XS.astore X2235.here hx rfl (hb hby at_220) rfl rfl (l' := #[vI p0, vI p1, vI p2, vI p3, vI p4, vI v273, vI v279, vI v285, vI v291, vI v294, vI v297, vI v300, vI v303, vR b306, vR b1320, vR b1341, vR b1795, vR b2029, vR b2147, vR b2161, vR b1320]) rfl ?_
      refine XS.aload X2235.here hx rfl (hb hby at_222) rfl rfl ?_
      refine XS.ifnonnullYes X2235.here hx rfl (pc0 := 224) (pc' := 229) rfl (hb hby at_224) rfl (by decide) (by decide) ?_
      refine XS.iload X2235.here hx rfl (hb hby at_229) rfl ?_
      refine XS.ifNo X2235.here hx rfl (hb hby at_231) rfl ((if0 _ _).trans (feq hc139_1355).1) ?_
      refine XS.aload X2235.here hx rfl (hb hby at_234) rfl rfl ?_
      refine XS.aload X2235.here hx rfl (hb hby at_236) rfl rfl ?_
      exact k
     obtain ⟨cq2257, kq2257, q2257a, q2257b, q2257c⟩ := isOf hZ2235 e2235 Ef2241
     obtain ⟨_, _, ⟨T2257, L2257, k2257, n2257⟩, -, X2257, ⟨Lc2257, hQ2257, l2257, y2257, z2257⟩, st2257⟩ := X2235.virtualBack hx (y := (⟨"java/lang/String", "equals", "(Ljava/lang/Object;)Z"⟩ : MethodName)) (z := (⟨"java/lang/String", "equals", "(Ljava/lang/Object;)Z"⟩ : MethodName)) ho2235 (mvT hZ2235 (own_w hw 148 rfl)) (mvT hZ2235 (own_w hw 149 rfl)) (notFace_of_selects (args := #[]) (mvT hZ2235 (own_w hw 151 rfl))) (mvT hZ2235 (own_w hw 151 rfl)) (mvT hZ2235 (own_w hw 150 rfl)) (by decide) (backOf (W := 0) (rm27_s l Z ar0 hw [] b1320 h2235 n0 Z2235) hZ2235 (own_w hw 152 rfl) (own_w hw 3 rfl) (by decide) (by decide)) q2257a q2257c (g := (mkF m 238 #[vI p0, vI p1, vI p2, vI p3, vI p4, vI v273, vI v279, vI v285, vI v291, vI v294, vI v297, vI v300, vI v303, vR b306, vR b1320, vR b1341, vR b1795, vR b2029, vR b2147, vR b2161, vR b1320] [(.ref b1320), (.ref b1320)])) rfl (by rw [hml]; rfl) (Steps.refl _) (argsL := [(.ref b1320)]) (rest := []) (lenOf pd_15 rfl) rfl (by show 2 * 0 + _ ≤ _; exact Nat.le_of_eq rfl) (hb hby at_238) (fun _ _ => ⟨rfl, e2235, (by decide : 29 + 0 ≤ _), (by decide : 277 + 0 ≤ _)⟩)
     dsimp only [Pt.U, Pt.locs, Pt.cells, Pt.slots] at X2257 l2257 y2257 z2257 st2257 hQ2257
     subst l2257 y2257 z2257
     obtain ⟨rfl, N2257q, e2257⟩ := hQ2257
     have N2257 := Fr.app N2235 N2257q
     have pre2258 : own_P p e below T2257 (mkF m 241 #[vI p0, vI p1, vI p2, vI p3, vI p4, vI v273, vI v279, vI v285, vI v291, vI v294, vI v297, vI v300, vI v303, vR b306, vR b1320, vR b1341, vR b1795, vR b2029, vR b2147, vR b2161, vR b1320] [(.int 1)]) s₁ (own_E m p0 p1 p2 p3 p4) := fun t k => pre2256 t (st2257.trans k)
     obtain ⟨fs, hr, hrun, hended, hRW⟩ := X2257.leaveW (s := s) (vm₁ := T2235.vm) hS2235 (by rw [e2257]; first | exact hk2235 | exact Nat.le_refl _) (v := some (.int 1)) (fun h => by rw [Bd.returns] at h; cases h)
     refine ⟨_, _, pre2258 _ ?_, hrun, hended, _, _, rfl, ?_, hRW.1, hRW.2.1, hRW.2.2.1, hRW.2.2.2.mono (by decide) (by decide)⟩
     ·
      exact retN X2257 hx (t := .boolean) Bd.returns (by simp) (hb hby at_241) hr
     ·
      show Q0 Z p0 p1 p2 p3 p4 gc1 gf3 s_EMPTY h0 n0 _ T2257.heap _
      rw [e2257]
      exact ⟨rfl, N2257⟩
set_option maxRecDepth 65536 in
set_option maxHeartbeats 40000000 in
theorem comes_1 {Post : Tables → Env → Array Value → State → Outcome → State → Prop} (hpost : ∀ tb e args s v u, (limb_1_1.after args s (.returned v) u = true ∧ limb_1_2.after args s (.returned v) u = true ∧ True) → ReturnedEndW s (.returned v) u (Jvm.fieldLocs frame_1_writes args s ++ Jvm.arrayLocs frame_1_arrays args s ++ Jvm.staticLocs frame_1_statics s) 48 10432 → Post tb e args s (.returned v) u) :
  ArmFor flags0 classFile x code maxLocals ret World_1 tables_1 room_1 Calls_1 rest_1 Pre_1 Post := by
 intro l hfl _ _ p e ha hc hk s m args below hf hA hF happ hP
 obtain ⟨hcalls, hrest, hpre⟩ := hP
 obtain ⟨-, -, -, hnamed, -, -, -, hat⟩ := (Spec.applies_iff hf).mp happ
 obtain ⟨hg, hn⟩ := and_e (Cond.before_iff.mp (show (Jvm.Cond.and given_1 narrow_1).before args s = true from hpre))
 obtain ⟨hcount, hg0⟩ := and_e hg
 obtain ⟨ha0, hg1⟩ := and_e hg0
 obtain ⟨ha1, hg2⟩ := and_e hg1
 obtain ⟨ha2, hg3⟩ := and_e hg2
 obtain ⟨ha3, hg4⟩ := and_e hg3
 have ha4 := hg4
 obtain ⟨w0, w1, w2, w3, w4, rfl⟩ : ∃ w0 w1 w2 w3 w4 : Value, args = #[w0, w1, w2, w3, w4] := by
  have hs : args.size = 5 := by simpa [Cond.value, given_1] using hcount
  obtain ⟨L⟩ := args
  match L, hs with
  | [w0, w1, w2, w3, w4], _ => exact ⟨w0, w1, w2, w3, w4, rfl⟩
 have hw := fun d (hd : d ∈ tables_1) => atoms_spec (ws := Jvm.Cond.code x code maxLocals ret :: tables_1) hat d (List.mem_cons_of_mem _ hd)
 have hfit : Fit s := fun {y c} hc i hi => by
  obtain ⟨ha, rfl⟩ := Array.getElem?_eq_some_iff.mp hc
  have q := List.all_eq_true.mp ((Array.all_eq_true_iff_forall_mem.mp hF) _ (Array.getElem_mem ha)) i (List.mem_range.mpr hi)
  simpa [Array.getElem?_eq_getElem hi] using q
 obtain ⟨hsets, hown0⟩ := atoms_of _ (rest_1_c_eq ▸ (show rest_1_c.before _ s = true from hrest))
 have hr0 := Cond.before_iff.mp hown0
 obtain ⟨i0, ei0⟩ := is_v ha0
 obtain rfl : w0 = (.int i0) := Option.some.inj ei0
 obtain ⟨i1, ei1⟩ := is_v ha1
 obtain rfl : w1 = (.int i1) := Option.some.inj ei1
 obtain ⟨i2, ei2⟩ := is_v ha2
 obtain rfl : w2 = (.int i2) := Option.some.inj ei2
 obtain ⟨i3, ei3⟩ := is_v ha3
 obtain rfl : w3 = (.int i3) := Option.some.inj ei3
 obtain ⟨i4, ei4⟩ := is_v ha4
 obtain rfl : w4 = (.int i4) := Option.some.inj ei4
 have hj11 := Cond.before_iff.mp (hsets _ (List.mem_of_getElem? (i := 11) rfl))
 obtain ⟨s_EMPTY, hs_EMPTY⟩ := exa_v hj11
 have S_EMPTY := Sta.start hs_EMPTY (Or.inl (hsets _ (List.mem_of_getElem? (i := 10) rfl)))
 have E_s_EMPTY := Exa.start hs_EMPTY hj11
 have hj12 := Cond.before_iff.mp (hsets _ (List.mem_of_getElem? (i := 12) rfl))
 have F_value_s_EMPTY := Fld.start ((fld_at hs_EMPTY).symm.trans (null_v hj12))
 have hj0 := hsets _ (List.mem_of_getElem? (i := 0) rfl)
 have hj1 := Cond.before_iff.mp (hsets _ (List.mem_of_getElem? (i := 1) rfl))
 have hj2 := Cond.before_iff.mp (hsets _ (List.mem_of_getElem? (i := 2) rfl))
 have hj7 := hsets _ (List.mem_of_getElem? (i := 7) rfl)
 have hj8 := Cond.before_iff.mp (hsets _ (List.mem_of_getElem? (i := 8) rfl))
 obtain ⟨gc1, hG1⟩ := is_v hj1
 have S1 := Sta.start hG1 (Or.inl hj0)
 have P5 := own_neI hG1 hj2
 obtain ⟨gf3, hG3, rG3⟩ := isR_v hj8
 have S2 := Sta.start hG3 (Or.inl hj7)
 have hCH : CHv s own_EL s.vm s.heap := CHv.start (own_EW hw) (fun p hp => hcalls.1 p ((by decide : ∀ p ∈ own_EL, p ∈ consts_1) p hp)) (hsets _ (List.mem_of_getElem? (i := 2) rfl)) (own_strW hw _ (by decide)) (own_strW hw _ (by decide))
 obtain ⟨n, o, h1, h2, h3, _, L, rfl, ⟨rfl, N⟩, hq⟩ := rm0 l s _ hw tables_1 i0 i1 i2 i3 i4 gc1 gf3 s_EMPTY s.heap s.heap.size (Nat.le_refl _) P5 rG3 S1 S2 S_EMPTY E_s_EMPTY F_value_s_EMPTY p e ha hc hk s m _ below hf ((Spec.applies_iff_loose hf).mp happ).1 ⟨rfl, State.Warmed39.refl s, rfl, hCH⟩ trivial
 refine ⟨n, _, h1, h2, h3, hpost _ _ _ _ _ _ ⟨Cond.after_iff.mpr rfl, Cond.after_iff.mpr (eq_i res_at (Term.int_eval (1)) rfl), trivial⟩ ⟨hq.1, hq.2.1, hq.2.2.1, (hq.2.2.2.sift fun y hy => Or.inr (N y hy)).mono (by decide) (by decide)⟩⟩
theorem main_1_1 : Claimed_1_1 := comes_1 fun _ _ _ _ _ _ h hF => ⟨h.1, hF⟩
theorem main_1_2 : Claimed_1_2 := comes_1 fun _ _ _ _ _ _ h hF => ⟨h.2.1, hF⟩
end Jvm.Pilot.@@N@@
namespace Jvm.Pilot.@@N@@
open Jvm Jvm.ClassFile Sem Op Lib Jvm.Free Jvm.Stand Jvm.Pilot.@@N@@.Jvm.D
/-! MADE BY PROGRAM (witnessworld.py) out of the Statement's table words and the real class files: 25 classes; the members and pool entries that the words name. The judged class is class 1, her method 1. -/
namespace start1
open Jvm.ClassFile
def u (s : String) : CpInfo := .utf8 (stringToUtf16 s)
/-- a pool by its gaps: so many unusable entries, then the entry; so many at the end -/
def gap : Nat → List CpInfo → List CpInfo
  | 0, r => r
  | n + 1, r => .unusable :: gap n r
def poolList (es : List (Nat × CpInfo)) (last : Nat) : List CpInfo := es.foldr (fun e r => gap e.1 (e.2 :: r)) (gap last [])
def pool (es : List (Nat × CpInfo)) (last : Nat) : Array CpInfo := ⟨poolList es last⟩
def fileOf (pool : Array CpInfo) (this : Nat) (attrs : Array Attribute := #[]) (ms : Array MethodInfo := #[]) (fl : Nat := 33) (sup : Nat := 0) (ifs : Array Nat := #[]) (fds : Array FieldInfo := #[]) : ClassFile where
  minorVersion := 0
  majorVersion := 65
  constantPool := pool
  accessFlags := fl
  thisClass := this
  superClass := sup
  interfaces := ifs
  fields := fds
  methods := ms
  attributes := attrs
def plain (name : String) (sup : Option ClassId) : Class where
  name := name
  kind := .ordinary
  loader := none
  accessFlags := 33
  super := sup
  interfaces := #[]
  cf := none
  fields := #[]
  methods := #[]
  instanceTypes := #[]
  staticTypes := #[]
  resolved := #[]
  callSites := []
  init := .initialized
  statics := none
  mirror := none

def pool0 : Array CpInfo := pool [(5, u "<init>"), (0, u "()V"), (1, .class_ 10), (1, u "java/lang/Object")] 113

def k0c0 : Code := { maxStack := 0, maxLocals := 1, code := object_method_1_code, exceptionTable := #[], attributes := #[] }
def k0m0 : Method := { name := "<init>", desc := "()V", sig := { parameters := [], returnType := none }, accessFlags := 1, code := some k0c0 }
/-- java/lang/Object -/
def k0 : Class := { plain "java/lang/Object" none with
  accessFlags := 33
  interfaces := #[]
  cf := some (fileOf pool0 8 #[] #[{ accessFlags := 1, nameIndex := 5, descriptorIndex := 6, attributes := #[] }] 33 0 #[] #[])
  fields := #[]
  methods := #[k0m0]
  instanceTypes := #[]
  staticTypes := #[]
  resolved := Array.replicate 124 none
  statics := none }

def pool1 : Array CpInfo := pool [(2, .class_ 4), (1, u "java/lang/Object"), (0, u "<init>"), (0, u "()V"), (0, .class_ 8), (0, u "java/lang/String"), (0, .methodref 7 10), (0, .nameAndType 5 11), (0, u "([C)V"), (0, .methodref 7 13), (0, .nameAndType 14 15), (0, u "valueOf"), (0, u "(C)Ljava/lang/String;"), (0, .methodref 17 18), (0, .class_ 19), (0, .nameAndType 20 21), (0, u "java/util/Optional"), (0, u "of"), (0, u "(Ljava/lang/Object;)Ljava/util/Optional;"), (0, .methodref 17 23), (0, .nameAndType 24 25), (0, u "empty"), (0, u "()Ljava/util/Optional;"), (0, .class_ 27), (0, u "com/example/strict_url/stricturl/url/GopherUrl"), (0, .string 29), (0, u "gopher://h/"), (0, .string 31), (0, u "h"), (0, .methodref 26 33), (0, .nameAndType 5 34), (0, u "(Ljava/lang/String;Ljava/lang/String;Ljava/util/Optional;Ljava/util/Optional;Ljava/lang/String;Ljava/util/Optional;Ljava/util/Optional;)V"), (0, .methodref 26 36), (0, .nameAndType 37 38), (0, u "effectiveType"), (0, u "()Ljava/lang/String;"), (0, .methodref 7 40), (0, .nameAndType 41 42), (0, u "equals"), (0, u "(Ljava/lang/Object;)Z"), (0, .methodref 7 44), (0, .nameAndType 45 46), (0, u "length"), (0, u "()I"), (0, .methodref 7 48), (0, .nameAndType 49 50), (0, u "charAt"), (0, u "(I)C"), (0, .class_ 52), (0, u "com/example/strict_url/stricturl/url/GopherUrlEffectiveTypePinLaw"), (2, u "law"), (0, u "(IIIII)Z")] 5

def k1m0 : Method := { name := "<init>", desc := "()V", sig := { parameters := [], returnType := none }, accessFlags := 1, code := none }
def k1c1 : Code := { maxStack := 9, maxLocals := 21, code := code, exceptionTable := #[], attributes := #[] }
def k1m1 : Method := { name := "law", desc := "(IIIII)Z", sig := { parameters := [.int, .int, .int, .int, .int], returnType := some .boolean }, accessFlags := 9, code := some k1c1 }
/-- com/example/strict_url/stricturl/url/GopherUrlEffectiveTypePinLaw -/
def k1 : Class := { plain "com/example/strict_url/stricturl/url/GopherUrlEffectiveTypePinLaw" (some 0) with
  accessFlags := 49
  interfaces := #[]
  cf := some (fileOf pool1 51 #[] #[{ accessFlags := 1, nameIndex := 5, descriptorIndex := 6, attributes := #[] }, { accessFlags := 9, nameIndex := 55, descriptorIndex := 56, attributes := #[] }] 49 2 #[] #[])
  fields := #[]
  methods := #[k1m0, k1m1]
  instanceTypes := #[]
  staticTypes := #[]
  resolved := Array.replicate 62 none
  statics := none }

def pool2 : Array CpInfo := pool [(1, .class_ 2), (0, u "java/io/Serializable"), (0, .class_ 4), (0, u "java/lang/Object")] 2

/-- java/io/Serializable -/
def k2 : Class := { plain "java/io/Serializable" (some 0) with
  accessFlags := 1537
  interfaces := #[]
  cf := some (fileOf pool2 1 #[] #[] 1537 3 #[] #[])
  fields := #[]
  methods := #[]
  instanceTypes := #[]
  staticTypes := #[]
  resolved := Array.replicate 7 none
  statics := none }

def pool3 : Array CpInfo := pool [(1, .class_ 2), (0, u "java/lang/Comparable"), (0, .class_ 4), (0, u "java/lang/Object")] 7

/-- java/lang/Comparable -/
def k3 : Class := { plain "java/lang/Comparable" (some 0) with
  accessFlags := 1537
  interfaces := #[]
  cf := some (fileOf pool3 1 #[] #[] 1537 3 #[] #[])
  fields := #[]
  methods := #[]
  instanceTypes := #[]
  staticTypes := #[]
  resolved := Array.replicate 12 none
  statics := none }

def pool4 : Array CpInfo := pool [(2, .class_ 4), (1, u "java/lang/CharSequence"), (42, .class_ 48), (0, u "java/lang/CharSequence$1CodePointIterator"), (10, .class_ 60), (0, u "java/lang/CharSequence$1CharIterator"), (5, .class_ 67), (0, u "java/lang/Object")] 63

/-- java/lang/CharSequence -/
def k4 : Class := { plain "java/lang/CharSequence" (some 0) with
  accessFlags := 1537
  interfaces := #[]
  cf := some (fileOf pool4 2 #[.nestMembers #[47, 59]] #[] 1537 66 #[] #[])
  fields := #[]
  methods := #[]
  instanceTypes := #[]
  staticTypes := #[]
  resolved := Array.replicate 131 none
  statics := none }

def pool5 : Array CpInfo := pool [(1, .class_ 2), (0, u "java/lang/constant/Constable"), (0, .class_ 4), (0, u "java/lang/Object")] 6

/-- java/lang/constant/Constable -/
def k5 : Class := { plain "java/lang/constant/Constable" (some 0) with
  accessFlags := 1537
  interfaces := #[]
  cf := some (fileOf pool5 1 #[] #[] 1537 3 #[] #[])
  fields := #[]
  methods := #[]
  instanceTypes := #[]
  staticTypes := #[]
  resolved := Array.replicate 11 none
  statics := none }

def pool6 : Array CpInfo := pool [(1, .class_ 2), (0, u "java/lang/constant/ConstantDesc"), (0, .class_ 4), (0, u "java/lang/Object")] 32

/-- java/lang/constant/ConstantDesc -/
def k6 : Class := { plain "java/lang/constant/ConstantDesc" (some 0) with
  accessFlags := 1537
  interfaces := #[]
  cf := some (fileOf pool6 1 #[] #[] 1537 3 #[] #[])
  fields := #[]
  methods := #[]
  instanceTypes := #[]
  staticTypes := #[]
  resolved := Array.replicate 37 none
  statics := none }

def pool7 : Array CpInfo := pool [(1, .methodref 2 3), (0, .class_ 4), (0, .nameAndType 5 6), (0, u "java/lang/Object"), (0, u "<init>"), (0, u "()V"), (2, .fieldref 10 11), (0, .class_ 12), (0, .nameAndType 13 14), (0, u "java/lang/String"), (0, u "value"), (0, u "[B"), (0, .fieldref 10 16), (0, .nameAndType 17 18), (0, u "coder"), (0, u "B"), (2, u "hash"), (0, u "I"), (2, u "hashIsZero"), (0, u "Z"), (0, .methodref 10 28), (0, .nameAndType 5 29), (0, u "([CIILjava/lang/Void;)V"), (8, .fieldref 10 39), (0, .nameAndType 40 26), (0, u "COMPACT_STRINGS"), (1, .class_ 44), (1, u "java/lang/StringUTF16"), (0, u "compress"), (1, .methodref 42 48), (0, .nameAndType 49 50), (0, u "coderFromArrayLen"), (0, u "([BI)B"), (2, u "toBytes"), (53, .class_ 109), (1, u "java/lang/StringLatin1"), (32, u "()Z"), (34, .methodref 42 178), (0, .nameAndType 45 179), (0, u "([CII)[B"), (29, .methodref 10 210), (0, .nameAndType 5 211), (0, u "([BB)V"), (122, u "()I"), (0, .methodref 10 336), (0, .nameAndType 17 337), (0, u "()B"), (25, u "([BI)C"), (5, u "(C)Z"), (21, u "(II)V"), (35, u "(I)C"), (64, .methodref 10 493), (0, .nameAndType 494 142), (0, u "isLatin1"), (0, .methodref 107 496), (0, .nameAndType 497 363), (0, u "charAt"), (3, u "checkIndex"), (5, u "length"), (35, u "equals"), (29, u "(Ljava/lang/Object;)Z"), (1, .class_ 576), (0, u "java/lang/CharSequence"), (22, u "CASE_INSENSITIVE_ORDER"), (0, u "Ljava/util/Comparator;"), (181, u "valueOf"), (0, u "(C)Ljava/lang/String;"), (226, u "([C)V"), (4, .methodref 107 1016), (0, .nameAndType 1017 369), (0, u "canEncode"), (0, .methodref 107 1019), (0, .nameAndType 53 1020), (0, u "(C)[B"), (32, .fieldref 1054 1055), (0, .class_ 1056), (0, .nameAndType 1057 1058), (0, u "jdk/internal/util/Preconditions"), (0, u "SIOOBE_FORMATTER"), (0, u "Ljava/util/function/BiFunction;"), (0, .methodref 1054 1060), (0, .nameAndType 501 1061), (0, u "(IILjava/util/function/BiFunction;)I"), (39, u "serialPersistentFields"), (0, u "[Ljava/io/ObjectStreamField;"), (0, .class_ 1104), (0, u "java/lang/String$CaseInsensitiveComparator"), (1, .class_ 1107), (0, u "java/io/Serializable"), (0, .class_ 1109), (0, u "java/lang/Comparable"), (0, .class_ 1111), (0, u "java/lang/constant/Constable"), (0, .class_ 1113), (0, u "java/lang/constant/ConstantDesc"), (2, u "serialVersionUID"), (0, u "J"), (3, u "REPL"), (0, u "C"), (2, u "LATIN1"), (1, u "UTF16")] 323

def k7m0 : Method := { name := "<init>", desc := "()V", sig := { parameters := [], returnType := none }, accessFlags := 1, code := none }
def k7c1 : Code := { maxStack := 5, maxLocals := 2, code := jdk_42_method_3_code, exceptionTable := #[], attributes := #[] }
def k7m1 : Method := { name := "<init>", desc := "([C)V", sig := { parameters := [(.array .char)], returnType := none }, accessFlags := 1, code := some k7c1 }
def k7c2 : Code := { maxStack := 2, maxLocals := 1, code := jdk_42_method_54_code, exceptionTable := #[], attributes := #[] }
def k7m2 : Method := { name := "length", desc := "()I", sig := { parameters := [], returnType := some .int }, accessFlags := 1, code := some k7c2 }
def k7c3 : Code := { maxStack := 2, maxLocals := 2, code := jdk_42_method_56_code, exceptionTable := #[], attributes := #[] }
def k7m3 : Method := { name := "charAt", desc := "(I)C", sig := { parameters := [.int], returnType := some .char }, accessFlags := 1, code := some k7c3 }
def k7c4 : Code := { maxStack := 2, maxLocals := 3, code := jdk_42_method_66_code, exceptionTable := #[], attributes := #[] }
def k7m4 : Method := { name := "equals", desc := "(Ljava/lang/Object;)Z", sig := { parameters := [(.object "java/lang/Object")], returnType := some .boolean }, accessFlags := 1, code := some k7c4 }
def k7c5 : Code := { maxStack := 4, maxLocals := 1, code := jdk_42_method_139_code, exceptionTable := #[], attributes := #[] }
def k7m5 : Method := { name := "valueOf", desc := "(C)Ljava/lang/String;", sig := { parameters := [.char], returnType := some (.object "java/lang/String") }, accessFlags := 9, code := some k7c5 }
def k7c6 : Code := { maxStack := 4, maxLocals := 6, code := jdk_42_method_149_code, exceptionTable := #[], attributes := #[] }
def k7m6 : Method := { name := "<init>", desc := "([CIILjava/lang/Void;)V", sig := { parameters := [(.array .char), .int, .int, (.object "java/lang/Void")], returnType := none }, accessFlags := 2, code := some k7c6 }
def k7c7 : Code := { maxStack := 2, maxLocals := 3, code := jdk_42_method_151_code, exceptionTable := #[], attributes := #[] }
def k7m7 : Method := { name := "<init>", desc := "([BB)V", sig := { parameters := [(.array .byte), .byte], returnType := none }, accessFlags := 0, code := some k7c7 }
def k7c8 : Code := { maxStack := 1, maxLocals := 1, code := jdk_42_method_152_code, exceptionTable := #[], attributes := #[] }
def k7m8 : Method := { name := "coder", desc := "()B", sig := { parameters := [], returnType := some .byte }, accessFlags := 0, code := some k7c8 }
def k7c9 : Code := { maxStack := 1, maxLocals := 1, code := jdk_42_method_154_code, exceptionTable := #[], attributes := #[] }
def k7m9 : Method := { name := "isLatin1", desc := "()Z", sig := { parameters := [], returnType := some .boolean }, accessFlags := 0, code := some k7c9 }
def k7c10 : Code := { maxStack := 3, maxLocals := 2, code := jdk_42_method_155_code, exceptionTable := #[], attributes := #[] }
def k7m10 : Method := { name := "checkIndex", desc := "(II)V", sig := { parameters := [.int, .int], returnType := none }, accessFlags := 8, code := some k7c10 }
/-- java/lang/String -/
def k7 : Class := { plain "java/lang/String" (some 0) with
  accessFlags := 49
  interfaces := #[2, 3, 4, 5, 6]
  cf := some (fileOf pool7 10 #[.nestMembers #[1103]] #[{ accessFlags := 1, nameIndex := 5, descriptorIndex := 6, attributes := #[] }, { accessFlags := 1, nameIndex := 5, descriptorIndex := 1010, attributes := #[] }, { accessFlags := 1, nameIndex := 507, descriptorIndex := 334, attributes := #[] }, { accessFlags := 1, nameIndex := 497, descriptorIndex := 427, attributes := #[] }, { accessFlags := 1, nameIndex := 543, descriptorIndex := 573, attributes := #[] }, { accessFlags := 9, nameIndex := 782, descriptorIndex := 783, attributes := #[] }, { accessFlags := 2, nameIndex := 5, descriptorIndex := 29, attributes := #[] }, { accessFlags := 0, nameIndex := 5, descriptorIndex := 211, attributes := #[] }, { accessFlags := 0, nameIndex := 17, descriptorIndex := 337, attributes := #[] }, { accessFlags := 0, nameIndex := 494, descriptorIndex := 142, attributes := #[] }, { accessFlags := 8, nameIndex := 501, descriptorIndex := 391, attributes := #[] }] 49 2 #[1106, 1108, 575, 1110, 1112] #[{ accessFlags := 18, nameIndex := 13, descriptorIndex := 14, attributes := #[] }, { accessFlags := 18, nameIndex := 17, descriptorIndex := 18, attributes := #[] }, { accessFlags := 2, nameIndex := 21, descriptorIndex := 22, attributes := #[] }, { accessFlags := 2, nameIndex := 25, descriptorIndex := 26, attributes := #[] }, { accessFlags := 26, nameIndex := 1116, descriptorIndex := 1117, attributes := #[] }, { accessFlags := 24, nameIndex := 40, descriptorIndex := 26, attributes := #[] }, { accessFlags := 26, nameIndex := 1101, descriptorIndex := 1102, attributes := #[] }, { accessFlags := 26, nameIndex := 1121, descriptorIndex := 1122, attributes := #[] }, { accessFlags := 25, nameIndex := 599, descriptorIndex := 600, attributes := #[] }, { accessFlags := 24, nameIndex := 1125, descriptorIndex := 18, attributes := #[] }, { accessFlags := 24, nameIndex := 1127, descriptorIndex := 18, attributes := #[] }])
  fields := #[{ name := "value", type := (.array .byte), accessFlags := 18, slot := 0, constantValue := 0 }, { name := "coder", type := .byte, accessFlags := 18, slot := 1, constantValue := 0 }, { name := "hash", type := .int, accessFlags := 2, slot := 2, constantValue := 0 }, { name := "hashIsZero", type := .boolean, accessFlags := 2, slot := 3, constantValue := 0 }, { name := "serialVersionUID", type := .long, accessFlags := 26, slot := 0, constantValue := 0 }, { name := "COMPACT_STRINGS", type := .boolean, accessFlags := 24, slot := 1, constantValue := 0 }, { name := "serialPersistentFields", type := (.array (.object "java/io/ObjectStreamField")), accessFlags := 26, slot := 2, constantValue := 0 }, { name := "REPL", type := .char, accessFlags := 26, slot := 3, constantValue := 0 }, { name := "CASE_INSENSITIVE_ORDER", type := (.object "java/util/Comparator"), accessFlags := 25, slot := 4, constantValue := 0 }, { name := "LATIN1", type := .byte, accessFlags := 24, slot := 5, constantValue := 0 }, { name := "UTF16", type := .byte, accessFlags := 24, slot := 6, constantValue := 0 }]
  methods := #[k7m0, k7m1, k7m2, k7m3, k7m4, k7m5, k7m6, k7m7, k7m8, k7m9, k7m10]
  instanceTypes := #[(.array .byte), .byte, .int, .boolean]
  staticTypes := #[.long, .boolean, (.array (.object "java/io/ObjectStreamField")), .char, (.object "java/util/Comparator"), .byte, .byte]
  resolved := Array.replicate 1451 none
  statics := some 0 }

def pool8 : Array CpInfo := pool [(1, .class_ 2), (0, u "java/lang/String"), (1, .class_ 6), (1, u "java/lang/Object"), (0, u "<init>"), (0, u "()V"), (0, .methodref 1 10), (0, .nameAndType 11 12), (0, u "checkIndex"), (0, u "(II)V"), (1, .class_ 16), (1, u "java/lang/StringLatin1"), (36, u "([BI)C"), (36, u "canEncode"), (14, u "(C)Z"), (15, u "$assertionsDisabled"), (0, u "Z"), (98, .class_ 223), (1, u "java/lang/StringLatin1$LinesSpliterator"), (28, u "charAt"), (127, u "toBytes"), (1, u "(C)[B"), (7, .class_ 391), (0, u "java/lang/StringLatin1$CharsSpliterator")] 3

def k8m0 : Method := { name := "<init>", desc := "()V", sig := { parameters := [], returnType := none }, accessFlags := 0, code := none }
def k8c1 : Code := { maxStack := 2, maxLocals := 2, code := jdk_43_method_2_code, exceptionTable := #[], attributes := #[] }
def k8m1 : Method := { name := "charAt", desc := "([BI)C", sig := { parameters := [(.array .byte), .int], returnType := some .char }, accessFlags := 9, code := some k8c1 }
def k8c2 : Code := { maxStack := 2, maxLocals := 1, code := jdk_43_method_3_code, exceptionTable := #[], attributes := #[] }
def k8m2 : Method := { name := "canEncode", desc := "(C)Z", sig := { parameters := [.char], returnType := some .boolean }, accessFlags := 9, code := some k8c2 }
def k8c3 : Code := { maxStack := 4, maxLocals := 1, code := jdk_43_method_46_code, exceptionTable := #[], attributes := #[] }
def k8m3 : Method := { name := "toBytes", desc := "(C)[B", sig := { parameters := [.char], returnType := some (.array .byte) }, accessFlags := 9, code := some k8c3 }
/-- java/lang/StringLatin1 -/
def k8 : Class := { plain "java/lang/StringLatin1" (some 0) with
  accessFlags := 48
  interfaces := #[]
  cf := some (fileOf pool8 14 #[.nestMembers #[390, 221]] #[{ accessFlags := 0, nameIndex := 7, descriptorIndex := 8, attributes := #[] }, { accessFlags := 9, nameIndex := 252, descriptorIndex := 53, attributes := #[] }, { accessFlags := 9, nameIndex := 90, descriptorIndex := 105, attributes := #[] }, { accessFlags := 9, nameIndex := 380, descriptorIndex := 382, attributes := #[] }] 48 4 #[] #[{ accessFlags := 4120, nameIndex := 121, descriptorIndex := 122, attributes := #[] }])
  fields := #[{ name := "$assertionsDisabled", type := .boolean, accessFlags := 4120, slot := 0, constantValue := 0 }]
  methods := #[k8m0, k8m1, k8m2, k8m3]
  instanceTypes := #[]
  staticTypes := #[.boolean]
  resolved := Array.replicate 395 none
  statics := none }

def pool9 : Array CpInfo := pool [(1, .fieldref 2 3), (0, .class_ 4), (0, .nameAndType 5 6), (0, u "java/util/Optional"), (0, u "EMPTY"), (0, u "Ljava/util/Optional;"), (0, .methodref 8 9), (0, .class_ 10), (0, .nameAndType 11 12), (0, u "java/lang/Object"), (0, u "<init>"), (0, u "()V"), (0, .fieldref 2 14), (0, .nameAndType 15 16), (0, u "value"), (0, u "Ljava/lang/Object;"), (0, .methodref 18 19), (0, .class_ 20), (0, .nameAndType 21 22), (0, u "java/util/Objects"), (0, u "requireNonNull"), (0, u "(Ljava/lang/Object;)Ljava/lang/Object;"), (0, .methodref 2 24), (0, .nameAndType 11 25), (0, u "(Ljava/lang/Object;)V"), (29, u "empty"), (0, u "()Ljava/util/Optional;"), (8, u "(Ljava/lang/Object;)Ljava/util/Optional;"), (16, u "of"), (82, u "orElse")] 21

def k9c0 : Code := { maxStack := 1, maxLocals := 1, code := jdk_32_method_1_code, exceptionTable := #[], attributes := #[] }
def k9m0 : Method := { name := "empty", desc := "()Ljava/util/Optional;", sig := { parameters := [], returnType := some (.object "java/util/Optional") }, accessFlags := 9, code := some k9c0 }
def k9c1 : Code := { maxStack := 2, maxLocals := 2, code := jdk_32_method_2_code, exceptionTable := #[], attributes := #[] }
def k9m1 : Method := { name := "<init>", desc := "(Ljava/lang/Object;)V", sig := { parameters := [(.object "java/lang/Object")], returnType := none }, accessFlags := 2, code := some k9c1 }
def k9c2 : Code := { maxStack := 3, maxLocals := 1, code := jdk_32_method_3_code, exceptionTable := #[], attributes := #[] }
def k9m2 : Method := { name := "of", desc := "(Ljava/lang/Object;)Ljava/util/Optional;", sig := { parameters := [(.object "java/lang/Object")], returnType := some (.object "java/util/Optional") }, accessFlags := 9, code := some k9c2 }
def k9c3 : Code := { maxStack := 1, maxLocals := 2, code := jdk_32_method_15_code, exceptionTable := #[], attributes := #[] }
def k9m3 : Method := { name := "orElse", desc := "(Ljava/lang/Object;)Ljava/lang/Object;", sig := { parameters := [(.object "java/lang/Object")], returnType := some (.object "java/lang/Object") }, accessFlags := 1, code := some k9c3 }
/-- java/util/Optional -/
def k9 : Class := { plain "java/util/Optional" (some 0) with
  accessFlags := 49
  interfaces := #[]
  cf := some (fileOf pool9 2 #[] #[{ accessFlags := 9, nameIndex := 55, descriptorIndex := 56, attributes := #[] }, { accessFlags := 2, nameIndex := 11, descriptorIndex := 25, attributes := #[] }, { accessFlags := 9, nameIndex := 82, descriptorIndex := 65, attributes := #[] }, { accessFlags := 1, nameIndex := 165, descriptorIndex := 22, attributes := #[] }] 49 8 #[] #[{ accessFlags := 26, nameIndex := 5, descriptorIndex := 6, attributes := #[] }, { accessFlags := 18, nameIndex := 15, descriptorIndex := 16, attributes := #[] }])
  fields := #[{ name := "EMPTY", type := (.object "java/util/Optional"), accessFlags := 26, slot := 0, constantValue := 0 }, { name := "value", type := (.object "java/lang/Object"), accessFlags := 18, slot := 0, constantValue := 0 }]
  methods := #[k9m0, k9m1, k9m2, k9m3]
  instanceTypes := #[(.object "java/lang/Object")]
  staticTypes := #[(.object "java/util/Optional")]
  resolved := Array.replicate 187 none
  statics := some 1 }

def pool10 : Array CpInfo := pool [(1, .methodref 2 3), (0, .class_ 4), (0, .nameAndType 5 6), (0, u "java/lang/Object"), (0, u "<init>"), (0, u "()V"), (0, .class_ 8), (0, u "java/lang/Record")] 13

def k10c0 : Code := { maxStack := 1, maxLocals := 1, code := jdk_30_method_1_code, exceptionTable := #[], attributes := #[] }
def k10m0 : Method := { name := "<init>", desc := "()V", sig := { parameters := [], returnType := none }, accessFlags := 4, code := some k10c0 }
/-- java/lang/Record -/
def k10 : Class := { plain "java/lang/Record" (some 0) with
  accessFlags := 1057
  interfaces := #[]
  cf := some (fileOf pool10 7 #[] #[{ accessFlags := 4, nameIndex := 5, descriptorIndex := 6, attributes := #[] }] 1057 2 #[] #[])
  fields := #[]
  methods := #[k10m0]
  instanceTypes := #[]
  staticTypes := #[]
  resolved := Array.replicate 22 none
  statics := none }

def pool11 : Array CpInfo := pool [(1, .class_ 2), (0, u "com/example/strict_url/stricturl/url/Url"), (0, .class_ 4), (0, u "java/lang/Object")] 20

/-- com/example/strict_url/stricturl/url/Url -/
def k11 : Class := { plain "com/example/strict_url/stricturl/url/Url" (some 0) with
  accessFlags := 1537
  interfaces := #[]
  cf := some (fileOf pool11 1 #[] #[] 1537 3 #[] #[])
  fields := #[]
  methods := #[]
  instanceTypes := #[]
  staticTypes := #[]
  resolved := Array.replicate 25 none
  statics := none }

def pool12 : Array CpInfo := pool [(1, .class_ 2), (0, u "com/example/strict_url/stricturl/url/ServerUrl"), (0, .class_ 4), (0, u "java/lang/Object"), (0, .class_ 6), (0, u "com/example/strict_url/stricturl/url/Url")] 25

/-- com/example/strict_url/stricturl/url/ServerUrl -/
def k12 : Class := { plain "com/example/strict_url/stricturl/url/ServerUrl" (some 0) with
  accessFlags := 1537
  interfaces := #[11]
  cf := some (fileOf pool12 1 #[] #[] 1537 3 #[5] #[])
  fields := #[]
  methods := #[]
  instanceTypes := #[]
  staticTypes := #[]
  resolved := Array.replicate 32 none
  statics := none }

def pool13 : Array CpInfo := pool [(1, .methodref 2 3), (0, .class_ 4), (0, .nameAndType 5 6), (0, u "java/lang/Record"), (0, u "<init>"), (0, u "()V"), (0, .string 8), (0, u "text"), (0, .methodref 10 11), (0, .class_ 12), (0, .nameAndType 13 14), (0, u "java/util/Objects"), (0, u "requireNonNull"), (0, u "(Ljava/lang/Object;Ljava/lang/String;)Ljava/lang/Object;"), (0, .string 16), (0, u "host"), (0, .string 18), (0, u "port"), (0, .string 20), (0, u "type"), (0, .string 22), (0, u "selector"), (0, .string 24), (0, u "search"), (0, .string 26), (0, u "gopherPlus"), (0, .fieldref 28 29), (0, .class_ 30), (0, .nameAndType 8 31), (0, u "com/example/strict_url/stricturl/url/GopherUrl"), (0, u "Ljava/lang/String;"), (0, .fieldref 28 33), (0, .nameAndType 16 31), (0, .fieldref 28 35), (0, .nameAndType 18 36), (0, u "Ljava/util/Optional;"), (0, .fieldref 28 38), (0, .nameAndType 20 36), (0, .fieldref 28 40), (0, .nameAndType 22 31), (0, .fieldref 28 42), (0, .nameAndType 24 36), (0, .fieldref 28 44), (0, .nameAndType 26 36), (2, .string 48), (0, u "1"), (0, .methodref 50 51), (0, .class_ 52), (0, .nameAndType 53 54), (0, u "java/util/Optional"), (0, u "orElse"), (0, u "(Ljava/lang/Object;)Ljava/lang/Object;"), (0, .class_ 56), (0, u "java/lang/String"), (9, u "()Ljava/lang/String;"), (31, .class_ 99), (0, u "com/example/strict_url/stricturl/url/ServerUrl"), (2, u "DEFAULT_PORT"), (0, u "I"), (2, u "DEFAULT_TYPE"), (0, u "(Ljava/lang/String;Ljava/lang/String;Ljava/util/Optional;Ljava/util/Optional;Ljava/lang/String;Ljava/util/Optional;Ljava/util/Optional;)V"), (4, u "effectiveType")] 35

def k13c0 : Code := { maxStack := 2, maxLocals := 8, code := prog_33_method_1_code, exceptionTable := #[], attributes := #[] }
def k13m0 : Method := { name := "<init>", desc := "(Ljava/lang/String;Ljava/lang/String;Ljava/util/Optional;Ljava/util/Optional;Ljava/lang/String;Ljava/util/Optional;Ljava/util/Optional;)V", sig := { parameters := [(.object "java/lang/String"), (.object "java/lang/String"), (.object "java/util/Optional"), (.object "java/util/Optional"), (.object "java/lang/String"), (.object "java/util/Optional"), (.object "java/util/Optional")], returnType := none }, accessFlags := 1, code := some k13c0 }
def k13c1 : Code := { maxStack := 2, maxLocals := 1, code := prog_33_method_3_code, exceptionTable := #[], attributes := #[] }
def k13m1 : Method := { name := "effectiveType", desc := "()Ljava/lang/String;", sig := { parameters := [], returnType := some (.object "java/lang/String") }, accessFlags := 1, code := some k13c1 }
/-- com/example/strict_url/stricturl/url/GopherUrl -/
def k13 : Class := { plain "com/example/strict_url/stricturl/url/GopherUrl" (some 10) with
  accessFlags := 49
  interfaces := #[12]
  cf := some (fileOf pool13 28 #[] #[{ accessFlags := 1, nameIndex := 5, descriptorIndex := 107, attributes := #[] }, { accessFlags := 1, nameIndex := 112, descriptorIndex := 66, attributes := #[] }] 49 2 #[98] #[{ accessFlags := 18, nameIndex := 8, descriptorIndex := 31, attributes := #[] }, { accessFlags := 18, nameIndex := 16, descriptorIndex := 31, attributes := #[] }, { accessFlags := 18, nameIndex := 18, descriptorIndex := 36, attributes := #[] }, { accessFlags := 18, nameIndex := 20, descriptorIndex := 36, attributes := #[] }, { accessFlags := 18, nameIndex := 22, descriptorIndex := 31, attributes := #[] }, { accessFlags := 18, nameIndex := 24, descriptorIndex := 36, attributes := #[] }, { accessFlags := 18, nameIndex := 26, descriptorIndex := 36, attributes := #[] }, { accessFlags := 26, nameIndex := 102, descriptorIndex := 103, attributes := #[] }, { accessFlags := 26, nameIndex := 106, descriptorIndex := 31, attributes := #[] }])
  fields := #[{ name := "text", type := (.object "java/lang/String"), accessFlags := 18, slot := 0, constantValue := 0 }, { name := "host", type := (.object "java/lang/String"), accessFlags := 18, slot := 1, constantValue := 0 }, { name := "port", type := (.object "java/util/Optional"), accessFlags := 18, slot := 2, constantValue := 0 }, { name := "type", type := (.object "java/util/Optional"), accessFlags := 18, slot := 3, constantValue := 0 }, { name := "selector", type := (.object "java/lang/String"), accessFlags := 18, slot := 4, constantValue := 0 }, { name := "search", type := (.object "java/util/Optional"), accessFlags := 18, slot := 5, constantValue := 0 }, { name := "gopherPlus", type := (.object "java/util/Optional"), accessFlags := 18, slot := 6, constantValue := 0 }, { name := "DEFAULT_PORT", type := .int, accessFlags := 26, slot := 0, constantValue := 0 }, { name := "DEFAULT_TYPE", type := (.object "java/lang/String"), accessFlags := 26, slot := 1, constantValue := 0 }]
  methods := #[k13m0, k13m1]
  instanceTypes := #[(.object "java/lang/String"), (.object "java/lang/String"), (.object "java/util/Optional"), (.object "java/util/Optional"), (.object "java/lang/String"), (.object "java/util/Optional"), (.object "java/util/Optional")]
  staticTypes := #[.int, (.object "java/lang/String")]
  resolved := Array.replicate 148 none
  statics := none }

def pool14 : Array CpInfo := pool [(2, .class_ 4), (1, u "java/lang/Object"), (0, u "<init>"), (0, u "()V"), (35, .class_ 44), (1, u "java/util/Objects"), (0, u "requireNonNull"), (0, u "(Ljava/lang/Object;)Ljava/lang/Object;"), (47, u "(Ljava/lang/Object;Ljava/lang/String;)Ljava/lang/Object;")] 89

def k14m0 : Method := { name := "<init>", desc := "()V", sig := { parameters := [], returnType := none }, accessFlags := 2, code := none }
def k14c1 : Code := { maxStack := 2, maxLocals := 1, code := jdk_31_method_10_code, exceptionTable := #[], attributes := #[] }
def k14m1 : Method := { name := "requireNonNull", desc := "(Ljava/lang/Object;)Ljava/lang/Object;", sig := { parameters := [(.object "java/lang/Object")], returnType := some (.object "java/lang/Object") }, accessFlags := 9, code := some k14c1 }
def k14c2 : Code := { maxStack := 3, maxLocals := 2, code := jdk_31_method_11_code, exceptionTable := #[], attributes := #[] }
def k14m2 : Method := { name := "requireNonNull", desc := "(Ljava/lang/Object;Ljava/lang/String;)Ljava/lang/Object;", sig := { parameters := [(.object "java/lang/Object"), (.object "java/lang/String")], returnType := some (.object "java/lang/Object") }, accessFlags := 9, code := some k14c2 }
/-- java/util/Objects -/
def k14 : Class := { plain "java/util/Objects" (some 0) with
  accessFlags := 49
  interfaces := #[]
  cf := some (fileOf pool14 42 #[] #[{ accessFlags := 2, nameIndex := 5, descriptorIndex := 6, attributes := #[] }, { accessFlags := 9, nameIndex := 45, descriptorIndex := 46, attributes := #[] }, { accessFlags := 9, nameIndex := 45, descriptorIndex := 94, attributes := #[] }] 49 2 #[] #[])
  fields := #[]
  methods := #[k14m0, k14m1, k14m2]
  instanceTypes := #[]
  staticTypes := #[]
  resolved := Array.replicate 184 none
  statics := none }

def pool15 : Array CpInfo := pool [(2, .class_ 4), (1, u "java/lang/Object"), (0, u "<init>"), (0, u "()V"), (17, .class_ 26), (1, u "jdk/internal/util/Preconditions"), (6, u "checkIndex"), (21, .class_ 56), (0, u "jdk/internal/util/Preconditions$4"), (57, .class_ 115), (0, u "jdk/internal/util/Preconditions$1"), (7, u "SIOOBE_FORMATTER"), (0, u "Ljava/util/function/BiFunction;"), (0, .class_ 126), (0, u "jdk/internal/util/Preconditions$2"), (3, u "AIOOBE_FORMATTER"), (0, .class_ 132), (0, u "jdk/internal/util/Preconditions$3"), (3, u "IOOBE_FORMATTER"), (41, u "(IILjava/util/function/BiFunction;)I")] 15

def k15m0 : Method := { name := "<init>", desc := "()V", sig := { parameters := [], returnType := none }, accessFlags := 1, code := none }
def k15c1 : Code := { maxStack := 3, maxLocals := 3, code := jdk_41_method_11_code, exceptionTable := #[], attributes := #[] }
def k15m1 : Method := { name := "checkIndex", desc := "(IILjava/util/function/BiFunction;)I", sig := { parameters := [.int, .int, (.object "java/util/function/BiFunction")], returnType := some .int }, accessFlags := 9, code := some k15c1 }
/-- jdk/internal/util/Preconditions -/
def k15 : Class := { plain "jdk/internal/util/Preconditions" (some 0) with
  accessFlags := 33
  interfaces := #[]
  cf := some (fileOf pool15 24 #[.nestMembers #[55, 131, 125, 114]] #[{ accessFlags := 1, nameIndex := 5, descriptorIndex := 6, attributes := #[] }, { accessFlags := 9, nameIndex := 33, descriptorIndex := 178, attributes := #[] }] 33 2 #[] #[{ accessFlags := 25, nameIndex := 123, descriptorIndex := 124, attributes := #[] }, { accessFlags := 25, nameIndex := 130, descriptorIndex := 124, attributes := #[] }, { accessFlags := 25, nameIndex := 136, descriptorIndex := 124, attributes := #[] }])
  fields := #[{ name := "SIOOBE_FORMATTER", type := (.object "java/util/function/BiFunction"), accessFlags := 25, slot := 0, constantValue := 0 }, { name := "AIOOBE_FORMATTER", type := (.object "java/util/function/BiFunction"), accessFlags := 25, slot := 1, constantValue := 0 }, { name := "IOOBE_FORMATTER", type := (.object "java/util/function/BiFunction"), accessFlags := 25, slot := 2, constantValue := 0 }]
  methods := #[k15m0, k15m1]
  instanceTypes := #[]
  staticTypes := #[(.object "java/util/function/BiFunction"), (.object "java/util/function/BiFunction"), (.object "java/util/function/BiFunction")]
  resolved := Array.replicate 194 none
  statics := some 2 }

def pool16 : Array CpInfo := pool [(6, .class_ 8), (1, u "java/lang/Object"), (0, u "<init>"), (0, u "()V"), (1, .class_ 14), (1, u "java/lang/StringUTF16"), (31, u "$assertionsDisabled"), (0, u "Z"), (13, u "HI_BYTE_SHIFT"), (0, u "I"), (2, u "LO_BYTE_SHIFT"), (49, .methodref 12 116), (0, .nameAndType 117 118), (0, u "compress"), (0, u "([CI[BII)I"), (3, u "([CII)[B"), (138, u "coderFromArrayLen"), (0, u "([BI)B"), (106, .class_ 371), (1, u "java/lang/StringUTF16$LinesSpliterator"), (58, u "MAX_LENGTH"), (196, .class_ 628), (0, u "java/lang/StringUTF16$CodePointsSpliterator"), (0, .class_ 630), (0, u "java/lang/StringUTF16$CharsSpliterator")] 4

def k16m0 : Method := { name := "<init>", desc := "()V", sig := { parameters := [], returnType := none }, accessFlags := 0, code := none }
def k16c1 : Code := { maxStack := 2, maxLocals := 2, code := jdk_52_method_15_code, exceptionTable := #[], attributes := #[] }
def k16m1 : Method := { name := "coderFromArrayLen", desc := "([BI)B", sig := { parameters := [(.array .byte), .int], returnType := some .byte }, accessFlags := 8, code := some k16c1 }
def k16c2 : Code := { maxStack := 5, maxLocals := 6, code := jdk_52_method_16_code, exceptionTable := #[], attributes := #[] }
def k16m2 : Method := { name := "compress", desc := "([CII)[B", sig := { parameters := [(.array .char), .int, .int], returnType := some (.array .byte) }, accessFlags := 9, code := some k16c2 }
def k16c3 : Code := { maxStack := 3, maxLocals := 7, code := jdk_52_method_21_code, exceptionTable := #[], attributes := #[] }
def k16m3 : Method := { name := "compress", desc := "([CI[BII)I", sig := { parameters := [(.array .char), .int, (.array .byte), .int, .int], returnType := some .int }, accessFlags := 9, code := some k16c3 }
/-- java/lang/StringUTF16 -/
def k16 : Class := { plain "java/lang/StringUTF16" (some 0) with
  accessFlags := 48
  interfaces := #[]
  cf := some (fileOf pool16 12 #[.nestMembers #[627, 629, 369]] #[{ accessFlags := 0, nameIndex := 9, descriptorIndex := 10, attributes := #[] }, { accessFlags := 8, nameIndex := 261, descriptorIndex := 262, attributes := #[] }, { accessFlags := 9, nameIndex := 117, descriptorIndex := 122, attributes := #[] }, { accessFlags := 9, nameIndex := 117, descriptorIndex := 118, attributes := #[] }] 48 6 #[] #[{ accessFlags := 26, nameIndex := 61, descriptorIndex := 62, attributes := #[] }, { accessFlags := 26, nameIndex := 65, descriptorIndex := 62, attributes := #[] }, { accessFlags := 24, nameIndex := 430, descriptorIndex := 62, attributes := #[] }, { accessFlags := 4120, nameIndex := 46, descriptorIndex := 47, attributes := #[] }])
  fields := #[{ name := "HI_BYTE_SHIFT", type := .int, accessFlags := 26, slot := 0, constantValue := 0 }, { name := "LO_BYTE_SHIFT", type := .int, accessFlags := 26, slot := 1, constantValue := 0 }, { name := "MAX_LENGTH", type := .int, accessFlags := 24, slot := 2, constantValue := 0 }, { name := "$assertionsDisabled", type := .boolean, accessFlags := 4120, slot := 3, constantValue := 0 }]
  methods := #[k16m0, k16m1, k16m2, k16m3]
  instanceTypes := #[]
  staticTypes := #[.int, .int, .int, .boolean]
  resolved := Array.replicate 635 none
  statics := none }

def pool17 : Array CpInfo := pool [(9, u "<init>"), (6, .class_ 18), (1, u "java/lang/Object"), (0, u "()V"), (1, .class_ 23), (1, u "jdk/internal/util/ArraysSupport"), (0, u "LOG2_ARRAY_LONG_INDEX_SCALE"), (0, u "I"), (2, u "U"), (0, u "Ljdk/internal/misc/Unsafe;"), (8, u "BIG_ENDIAN"), (0, u "Z"), (8, u "LOG2_BYTE_BIT_SIZE"), (4, u "LOG2_ARRAY_INT_INDEX_SCALE"), (54, u "JLA"), (0, u "Ljdk/internal/access/JavaLangAccess;"), (11, u "LOG2_ARRAY_BOOLEAN_INDEX_SCALE"), (9, u "LOG2_ARRAY_BYTE_INDEX_SCALE"), (5, u "LOG2_ARRAY_CHAR_INDEX_SCALE"), (5, u "LOG2_ARRAY_SHORT_INDEX_SCALE"), (18, u "LOG2_ARRAY_FLOAT_INDEX_SCALE"), (24, u "LOG2_ARRAY_DOUBLE_INDEX_SCALE"), (89, u "T_BOOLEAN"), (2, u "T_CHAR"), (1, u "T_FLOAT"), (1, u "T_DOUBLE"), (1, u "T_BYTE"), (1, u "T_SHORT"), (1, u "T_INT"), (1, u "T_LONG"), (1, u "SOFT_MAX_ARRAY_LENGTH")] 83

def k17m0 : Method := { name := "<init>", desc := "()V", sig := { parameters := [], returnType := none }, accessFlags := 2, code := none }
/-- jdk/internal/util/ArraysSupport -/
def k17 : Class := { plain "jdk/internal/util/ArraysSupport" (some 0) with
  accessFlags := 33
  interfaces := #[]
  cf := some (fileOf pool17 21 #[] #[{ accessFlags := 2, nameIndex := 9, descriptorIndex := 19, attributes := #[] }] 33 16 #[] #[{ accessFlags := 24, nameIndex := 28, descriptorIndex := 29, attributes := #[] }, { accessFlags := 26, nameIndex := 38, descriptorIndex := 39, attributes := #[] }, { accessFlags := 25, nameIndex := 121, descriptorIndex := 25, attributes := #[] }, { accessFlags := 25, nameIndex := 131, descriptorIndex := 25, attributes := #[] }, { accessFlags := 25, nameIndex := 137, descriptorIndex := 25, attributes := #[] }, { accessFlags := 25, nameIndex := 143, descriptorIndex := 25, attributes := #[] }, { accessFlags := 25, nameIndex := 53, descriptorIndex := 25, attributes := #[] }, { accessFlags := 25, nameIndex := 24, descriptorIndex := 25, attributes := #[] }, { accessFlags := 25, nameIndex := 162, descriptorIndex := 25, attributes := #[] }, { accessFlags := 25, nameIndex := 187, descriptorIndex := 25, attributes := #[] }, { accessFlags := 26, nameIndex := 48, descriptorIndex := 25, attributes := #[] }, { accessFlags := 25, nameIndex := 277, descriptorIndex := 25, attributes := #[] }, { accessFlags := 25, nameIndex := 280, descriptorIndex := 25, attributes := #[] }, { accessFlags := 25, nameIndex := 282, descriptorIndex := 25, attributes := #[] }, { accessFlags := 25, nameIndex := 284, descriptorIndex := 25, attributes := #[] }, { accessFlags := 25, nameIndex := 286, descriptorIndex := 25, attributes := #[] }, { accessFlags := 25, nameIndex := 288, descriptorIndex := 25, attributes := #[] }, { accessFlags := 25, nameIndex := 290, descriptorIndex := 25, attributes := #[] }, { accessFlags := 25, nameIndex := 292, descriptorIndex := 25, attributes := #[] }, { accessFlags := 26, nameIndex := 108, descriptorIndex := 109, attributes := #[] }, { accessFlags := 25, nameIndex := 294, descriptorIndex := 25, attributes := #[] }])
  fields := #[{ name := "U", type := (.object "jdk/internal/misc/Unsafe"), accessFlags := 24, slot := 0, constantValue := 0 }, { name := "BIG_ENDIAN", type := .boolean, accessFlags := 26, slot := 1, constantValue := 0 }, { name := "LOG2_ARRAY_BOOLEAN_INDEX_SCALE", type := .int, accessFlags := 25, slot := 2, constantValue := 0 }, { name := "LOG2_ARRAY_BYTE_INDEX_SCALE", type := .int, accessFlags := 25, slot := 3, constantValue := 0 }, { name := "LOG2_ARRAY_CHAR_INDEX_SCALE", type := .int, accessFlags := 25, slot := 4, constantValue := 0 }, { name := "LOG2_ARRAY_SHORT_INDEX_SCALE", type := .int, accessFlags := 25, slot := 5, constantValue := 0 }, { name := "LOG2_ARRAY_INT_INDEX_SCALE", type := .int, accessFlags := 25, slot := 6, constantValue := 0 }, { name := "LOG2_ARRAY_LONG_INDEX_SCALE", type := .int, accessFlags := 25, slot := 7, constantValue := 0 }, { name := "LOG2_ARRAY_FLOAT_INDEX_SCALE", type := .int, accessFlags := 25, slot := 8, constantValue := 0 }, { name := "LOG2_ARRAY_DOUBLE_INDEX_SCALE", type := .int, accessFlags := 25, slot := 9, constantValue := 0 }, { name := "LOG2_BYTE_BIT_SIZE", type := .int, accessFlags := 26, slot := 10, constantValue := 0 }, { name := "T_BOOLEAN", type := .int, accessFlags := 25, slot := 11, constantValue := 0 }, { name := "T_CHAR", type := .int, accessFlags := 25, slot := 12, constantValue := 0 }, { name := "T_FLOAT", type := .int, accessFlags := 25, slot := 13, constantValue := 0 }, { name := "T_DOUBLE", type := .int, accessFlags := 25, slot := 14, constantValue := 0 }, { name := "T_BYTE", type := .int, accessFlags := 25, slot := 15, constantValue := 0 }, { name := "T_SHORT", type := .int, accessFlags := 25, slot := 16, constantValue := 0 }, { name := "T_INT", type := .int, accessFlags := 25, slot := 17, constantValue := 0 }, { name := "T_LONG", type := .int, accessFlags := 25, slot := 18, constantValue := 0 }, { name := "JLA", type := (.object "jdk/internal/access/JavaLangAccess"), accessFlags := 26, slot := 19, constantValue := 0 }, { name := "SOFT_MAX_ARRAY_LENGTH", type := .int, accessFlags := 25, slot := 20, constantValue := 0 }]
  methods := #[k17m0]
  instanceTypes := #[]
  staticTypes := #[(.object "jdk/internal/misc/Unsafe"), .boolean, .int, .int, .int, .int, .int, .int, .int, .int, .int, .int, .int, .int, .int, .int, .int, .int, .int, (.object "jdk/internal/access/JavaLangAccess"), .int]
  resolved := Array.replicate 378 none
  statics := none }

def pool18 : Array CpInfo := pool [(1, u "java/lang/Cloneable"), (0, .class_ 1), (0, u "java/lang/Object"), (0, .class_ 3)] 3

/-- java/lang/Cloneable -/
def k18 : Class := { plain "java/lang/Cloneable" (some 0) with
  accessFlags := 1537
  interfaces := #[]
  cf := some (fileOf pool18 2 #[] #[] 1537 4 #[] #[])
  fields := #[]
  methods := #[]
  instanceTypes := #[]
  staticTypes := #[]
  resolved := Array.replicate 8 none
  statics := none }

/-- the primitive byte -/
def k19 : Class := { plain "byte" none with kind := .primitive 'B', accessFlags := 0x411 }
/-- [B -/
def k20 : Class := { plain "[B" (some 0) with kind := .array 19 .byte, interfaces := #[18, 2], accessFlags := 1041 }

/-- the primitive char -/
def k21 : Class := { plain "char" none with kind := .primitive 'C', accessFlags := 0x411 }
/-- [C -/
def k22 : Class := { plain "[C" (some 0) with kind := .array 21 .char, interfaces := #[18, 2], accessFlags := 1041 }

/-- the primitive int -/
def k23 : Class := { plain "int" none with kind := .primitive 'I', accessFlags := 0x411 }
/-- [I -/
def k24 : Class := { plain "[I" (some 0) with kind := .array 23 .int, interfaces := #[18, 2], accessFlags := 1041 }

def heap : Heap := #[{ cls := 7, slots := #[.long 0, .int 1, .null, .int 0, .null, .int 0, .int 0], vm := .statics 7 },
  { cls := 9, slots := #[.ref 3], vm := .statics 9 },
  { cls := 15, slots := #[.null, .null, .null], vm := .statics 15 },
  { cls := 9, slots := #[.null], vm := .none }]
def classes : Array Class := #[k0, k1, k2, k3, k4, k5, k6, k7, k8, k9, k10, k11, k12, k13, k14, k15, k16, k17, k18, k19, k20, k21, k22, k23, k24]
def interned : List (Array UInt16 × Addr) := []
def slotsUsed : Nat := 12
def theMethod : MethodId := ⟨1, 1⟩
def args0 : Array Value := #[.int 5, .int 7, .int 5, .int 7, .int 5]
def aboutOver (below : List Frame) : State where
  vm := { classes := classes, interned := interned.toArray }
  heap := heap
  slotsUsed := slotsUsed
  threads := #[{ frames := .invoking theMethod args0 :: below }]
def below0 : List Frame := [.native { method := ⟨0, 0⟩, args := #[] }]
def about1 : State := aboutOver below0
def p0 : Program := .bare "" "" ""
def e0 : Env := launch0.env 0 0 0
theorem w_frames : about1.frames = Frame.invoking theMethod args0 :: below0 := rfl
set_option maxRecDepth 65536 in
theorem w_args : argsFit about1.vm theMethod args0 = true := by decide +kernel
set_option maxRecDepth 65536 in
theorem w_heap : heapFits about1 = true := by decide +kernel
set_option maxRecDepth 65536 in
theorem w_runnable : about1.curStatus? = some .runnable := by decide +kernel
set_option maxRecDepth 65536 in
theorem w_alone : about1.alone = true := by decide +kernel
set_option maxRecDepth 65536 in
theorem w_named : about1.methodNamed? x = some theMethod := by decide +kernel
set_option maxRecDepth 65536 in
theorem w_hears : about1.hears theMethod below0 = true := by decide +kernel
set_option maxRecDepth 65536 in
theorem w_ripe : about1.ripe theMethod args0 below0 = true := by decide +kernel
theorem w_running : about1.status = .running := rfl
set_option maxRecDepth 65536 in
theorem w_room : about1.hasRoom e0.platform room_1 = true :=
  launch0.hasRoom_least _ room_1 (by decide +kernel) (by decide +kernel) (by decide +kernel) (by decide +kernel) (by decide +kernel) (by decide +kernel)
theorem allAtoms_all (ts : List Jvm.Cond) (a : Array Jvm.Value) (st : Jvm.State) : (allAtoms ts).before a st = ts.all (fun c => c.before a st) := by
  induction ts with
  | nil => rfl
  | cons c t ih =>
    show (Jvm.Cond.and c (allAtoms t)).before a st = _
    rw [Jvm.Cond.before_and, ih, List.all_cons]
def words1 : List Jvm.Cond := Jvm.Cond.code x code maxLocals ret :: tables_1
/-- a 'code' word, met by the world's own term for the bytes: nothing is compared byte by byte -/
theorem code_word {y : MethodName} {bytes : ByteArray} {mx : Nat} {rt : Option FieldType} {a : Array Value} {s : State} {m : MethodId} {meth : Method} {c : Code} (h1 : s.methodNamed? y = some m) (h2 : s.vm.method? m = some meth) (h3 : meth.code = some c) (h4 : c.code = bytes)
    (h5 : (c.maxLocals == mx && c.exceptionTable.isEmpty && decide (c.maxStack ≤ mostOperands) && decide (meth.sig.returnType = rt) && !meth.locks && decide (parseMethodDescriptor y.desc = some meth.sig)) = true) : (Jvm.Cond.code y bytes mx rt).before a s = true := by
  simp only [Bool.and_eq_true, beq_iff_eq, Bool.not_eq_true', decide_eq_true_eq] at h5
  obtain ⟨⟨⟨⟨⟨g1, g2⟩, g3⟩, g4⟩, g5⟩, g6⟩ := h5
  simp [Cond.before, Cond.holds, Cond.value, h1, h2, h3, h4, g1, g2, g3, g4, g5, g6]
def isCode : Jvm.Cond → Bool
  | .code _ _ _ _ => true
  | _ => false
theorem all_split {L : List Jvm.Cond} {P : Jvm.Cond → Bool} (h1 : L.all (fun c => isCode c || P c) = true) (h2 : ∀ c ∈ L.filter isCode, P c = true) : L.all P = true := by
  refine List.all_eq_true.mpr fun c hc => ?_
  have h := List.all_eq_true.mp h1 c hc
  rcases Bool.eq_false_or_eq_true (isCode c) with hi | hi
  · exact h2 c (List.mem_filter.mpr ⟨hc, hi⟩)
  · simpa [hi] using h
set_option maxRecDepth 65536 in
theorem w_c0 : (Jvm.Cond.code x code maxLocals ret).before args0 about1 = true := code_word (m := ⟨1, 1⟩) (meth := k1m1) (c := k1c1) (by decide +kernel) rfl rfl rfl (by decide +kernel)
set_option maxRecDepth 65536 in
theorem w_c1 : (Jvm.Cond.code ({ cls := "java/lang/String", name := "valueOf", desc := "(C)Ljava/lang/String;" } : Jvm.MethodName) jdk_42_method_139_code (1 : Nat) (Option.some (Jvm.ClassFile.FieldType.object "java/lang/String"))).before args0 about1 = true := code_word (m := ⟨7, 5⟩) (meth := k7m5) (c := k7c5) (by decide +kernel) rfl rfl rfl (by decide +kernel)
set_option maxRecDepth 65536 in
theorem w_c2 : (Jvm.Cond.code ({ cls := "java/lang/StringLatin1", name := "canEncode", desc := "(C)Z" } : Jvm.MethodName) jdk_43_method_3_code (1 : Nat) (Option.some Jvm.ClassFile.FieldType.boolean)).before args0 about1 = true := code_word (m := ⟨8, 2⟩) (meth := k8m2) (c := k8c2) (by decide +kernel) rfl rfl rfl (by decide +kernel)
set_option maxRecDepth 65536 in
theorem w_c3 : (Jvm.Cond.code ({ cls := "java/lang/StringLatin1", name := "toBytes", desc := "(C)[B" } : Jvm.MethodName) jdk_43_method_46_code (1 : Nat) (Option.some (Jvm.ClassFile.FieldType.array Jvm.ClassFile.FieldType.byte))).before args0 about1 = true := code_word (m := ⟨8, 3⟩) (meth := k8m3) (c := k8c3) (by decide +kernel) rfl rfl rfl (by decide +kernel)
set_option maxRecDepth 65536 in
theorem w_c4 : (Jvm.Cond.code ({ cls := "java/lang/String", name := "<init>", desc := "([BB)V" } : Jvm.MethodName) jdk_42_method_151_code (3 : Nat) (Option.none : Option Jvm.ClassFile.FieldType)).before args0 about1 = true := code_word (m := ⟨7, 7⟩) (meth := k7m7) (c := k7c7) (by decide +kernel) rfl rfl rfl (by decide +kernel)
set_option maxRecDepth 65536 in
theorem w_c5 : (Jvm.Cond.code ({ cls := "java/lang/Object", name := "<init>", desc := "()V" } : Jvm.MethodName) object_method_1_code (1 : Nat) (Option.none : Option Jvm.ClassFile.FieldType)).before args0 about1 = true := code_word (m := ⟨0, 0⟩) (meth := k0m0) (c := k0c0) (by decide +kernel) rfl rfl rfl (by decide +kernel)
set_option maxRecDepth 65536 in
theorem w_c6 : (Jvm.Cond.code ({ cls := "java/util/Optional", name := "empty", desc := "()Ljava/util/Optional;" } : Jvm.MethodName) jdk_32_method_1_code (1 : Nat) (Option.some (Jvm.ClassFile.FieldType.object "java/util/Optional"))).before args0 about1 = true := code_word (m := ⟨9, 0⟩) (meth := k9m0) (c := k9c0) (by decide +kernel) rfl rfl rfl (by decide +kernel)
set_option maxRecDepth 65536 in
theorem w_c7 : (Jvm.Cond.code ({ cls := "com/example/strict_url/stricturl/url/GopherUrl", name := "<init>", desc := "(Ljava/lang/String;Ljava/lang/String;Ljava/util/Optional;Ljava/util/Optional;Ljava/lang/String;Ljava/util/Optional;Ljava/util/Optional;)V" } : Jvm.MethodName) prog_33_method_1_code (8 : Nat) (Option.none : Option Jvm.ClassFile.FieldType)).before args0 about1 = true := code_word (m := ⟨13, 0⟩) (meth := k13m0) (c := k13c0) (by decide +kernel) rfl rfl rfl (by decide +kernel)
set_option maxRecDepth 65536 in
theorem w_c8 : (Jvm.Cond.code ({ cls := "java/lang/Record", name := "<init>", desc := "()V" } : Jvm.MethodName) jdk_30_method_1_code (1 : Nat) (Option.none : Option Jvm.ClassFile.FieldType)).before args0 about1 = true := code_word (m := ⟨10, 0⟩) (meth := k10m0) (c := k10c0) (by decide +kernel) rfl rfl rfl (by decide +kernel)
set_option maxRecDepth 65536 in
theorem w_c9 : (Jvm.Cond.code ({ cls := "java/util/Objects", name := "requireNonNull", desc := "(Ljava/lang/Object;Ljava/lang/String;)Ljava/lang/Object;" } : Jvm.MethodName) jdk_31_method_11_code (2 : Nat) (Option.some (Jvm.ClassFile.FieldType.object "java/lang/Object"))).before args0 about1 = true := code_word (m := ⟨14, 2⟩) (meth := k14m2) (c := k14c2) (by decide +kernel) rfl rfl rfl (by decide +kernel)
set_option maxRecDepth 65536 in
theorem w_c10 : (Jvm.Cond.code ({ cls := "com/example/strict_url/stricturl/url/GopherUrl", name := "effectiveType", desc := "()Ljava/lang/String;" } : Jvm.MethodName) prog_33_method_3_code (1 : Nat) (Option.some (Jvm.ClassFile.FieldType.object "java/lang/String"))).before args0 about1 = true := code_word (m := ⟨13, 1⟩) (meth := k13m1) (c := k13c1) (by decide +kernel) rfl rfl rfl (by decide +kernel)
set_option maxRecDepth 65536 in
theorem w_c11 : (Jvm.Cond.code ({ cls := "java/util/Optional", name := "orElse", desc := "(Ljava/lang/Object;)Ljava/lang/Object;" } : Jvm.MethodName) jdk_32_method_15_code (2 : Nat) (Option.some (Jvm.ClassFile.FieldType.object "java/lang/Object"))).before args0 about1 = true := code_word (m := ⟨9, 3⟩) (meth := k9m3) (c := k9c3) (by decide +kernel) rfl rfl rfl (by decide +kernel)
set_option maxRecDepth 65536 in
theorem w_c12 : (Jvm.Cond.code ({ cls := "java/lang/String", name := "length", desc := "()I" } : Jvm.MethodName) jdk_42_method_54_code (1 : Nat) (Option.some Jvm.ClassFile.FieldType.int)).before args0 about1 = true := code_word (m := ⟨7, 2⟩) (meth := k7m2) (c := k7c2) (by decide +kernel) rfl rfl rfl (by decide +kernel)
set_option maxRecDepth 65536 in
theorem w_c13 : (Jvm.Cond.code ({ cls := "java/lang/String", name := "coder", desc := "()B" } : Jvm.MethodName) jdk_42_method_152_code (1 : Nat) (Option.some Jvm.ClassFile.FieldType.byte)).before args0 about1 = true := code_word (m := ⟨7, 8⟩) (meth := k7m8) (c := k7c8) (by decide +kernel) rfl rfl rfl (by decide +kernel)
set_option maxRecDepth 65536 in
theorem w_c14 : (Jvm.Cond.code ({ cls := "java/lang/String", name := "charAt", desc := "(I)C" } : Jvm.MethodName) jdk_42_method_56_code (2 : Nat) (Option.some Jvm.ClassFile.FieldType.char)).before args0 about1 = true := code_word (m := ⟨7, 3⟩) (meth := k7m3) (c := k7c3) (by decide +kernel) rfl rfl rfl (by decide +kernel)
set_option maxRecDepth 65536 in
theorem w_c15 : (Jvm.Cond.code ({ cls := "java/lang/String", name := "isLatin1", desc := "()Z" } : Jvm.MethodName) jdk_42_method_154_code (1 : Nat) (Option.some Jvm.ClassFile.FieldType.boolean)).before args0 about1 = true := code_word (m := ⟨7, 9⟩) (meth := k7m9) (c := k7c9) (by decide +kernel) rfl rfl rfl (by decide +kernel)
set_option maxRecDepth 65536 in
theorem w_c16 : (Jvm.Cond.code ({ cls := "java/lang/StringLatin1", name := "charAt", desc := "([BI)C" } : Jvm.MethodName) jdk_43_method_2_code (2 : Nat) (Option.some Jvm.ClassFile.FieldType.char)).before args0 about1 = true := code_word (m := ⟨8, 1⟩) (meth := k8m1) (c := k8c1) (by decide +kernel) rfl rfl rfl (by decide +kernel)
set_option maxRecDepth 65536 in
theorem w_c17 : (Jvm.Cond.code ({ cls := "java/lang/String", name := "checkIndex", desc := "(II)V" } : Jvm.MethodName) jdk_42_method_155_code (2 : Nat) (Option.none : Option Jvm.ClassFile.FieldType)).before args0 about1 = true := code_word (m := ⟨7, 10⟩) (meth := k7m10) (c := k7c10) (by decide +kernel) rfl rfl rfl (by decide +kernel)
set_option maxRecDepth 65536 in
theorem w_c18 : (Jvm.Cond.code ({ cls := "jdk/internal/util/Preconditions", name := "checkIndex", desc := "(IILjava/util/function/BiFunction;)I" } : Jvm.MethodName) jdk_41_method_11_code (3 : Nat) (Option.some Jvm.ClassFile.FieldType.int)).before args0 about1 = true := code_word (m := ⟨15, 1⟩) (meth := k15m1) (c := k15c1) (by decide +kernel) rfl rfl rfl (by decide +kernel)
set_option maxRecDepth 65536 in
theorem w_c19 : (Jvm.Cond.code ({ cls := "java/lang/String", name := "<init>", desc := "([C)V" } : Jvm.MethodName) jdk_42_method_3_code (2 : Nat) (Option.none : Option Jvm.ClassFile.FieldType)).before args0 about1 = true := code_word (m := ⟨7, 1⟩) (meth := k7m1) (c := k7c1) (by decide +kernel) rfl rfl rfl (by decide +kernel)
set_option maxRecDepth 65536 in
theorem w_c20 : (Jvm.Cond.code ({ cls := "java/lang/String", name := "<init>", desc := "([CIILjava/lang/Void;)V" } : Jvm.MethodName) jdk_42_method_149_code (6 : Nat) (Option.none : Option Jvm.ClassFile.FieldType)).before args0 about1 = true := code_word (m := ⟨7, 6⟩) (meth := k7m6) (c := k7c6) (by decide +kernel) rfl rfl rfl (by decide +kernel)
set_option maxRecDepth 65536 in
theorem w_c21 : (Jvm.Cond.code ({ cls := "java/lang/StringUTF16", name := "compress", desc := "([CII)[B" } : Jvm.MethodName) jdk_52_method_16_code (6 : Nat) (Option.some (Jvm.ClassFile.FieldType.array Jvm.ClassFile.FieldType.byte))).before args0 about1 = true := code_word (m := ⟨16, 2⟩) (meth := k16m2) (c := k16c2) (by decide +kernel) rfl rfl rfl (by decide +kernel)
set_option maxRecDepth 65536 in
theorem w_c22 : (Jvm.Cond.code ({ cls := "java/lang/StringUTF16", name := "compress", desc := "([CI[BII)I" } : Jvm.MethodName) jdk_52_method_21_code (7 : Nat) (Option.some Jvm.ClassFile.FieldType.int)).before args0 about1 = true := code_word (m := ⟨16, 3⟩) (meth := k16m3) (c := k16c3) (by decide +kernel) rfl rfl rfl (by decide +kernel)
set_option maxRecDepth 65536 in
theorem w_c23 : (Jvm.Cond.code ({ cls := "java/lang/StringUTF16", name := "coderFromArrayLen", desc := "([BI)B" } : Jvm.MethodName) jdk_52_method_15_code (2 : Nat) (Option.some Jvm.ClassFile.FieldType.byte)).before args0 about1 = true := code_word (m := ⟨16, 1⟩) (meth := k16m1) (c := k16c1) (by decide +kernel) rfl rfl rfl (by decide +kernel)
set_option maxRecDepth 65536 in
theorem w_c24 : (Jvm.Cond.code ({ cls := "java/util/Optional", name := "of", desc := "(Ljava/lang/Object;)Ljava/util/Optional;" } : Jvm.MethodName) jdk_32_method_3_code (1 : Nat) (Option.some (Jvm.ClassFile.FieldType.object "java/util/Optional"))).before args0 about1 = true := code_word (m := ⟨9, 2⟩) (meth := k9m2) (c := k9c2) (by decide +kernel) rfl rfl rfl (by decide +kernel)
set_option maxRecDepth 65536 in
theorem w_c25 : (Jvm.Cond.code ({ cls := "java/util/Objects", name := "requireNonNull", desc := "(Ljava/lang/Object;)Ljava/lang/Object;" } : Jvm.MethodName) jdk_31_method_10_code (1 : Nat) (Option.some (Jvm.ClassFile.FieldType.object "java/lang/Object"))).before args0 about1 = true := code_word (m := ⟨14, 1⟩) (meth := k14m1) (c := k14c1) (by decide +kernel) rfl rfl rfl (by decide +kernel)
set_option maxRecDepth 65536 in
theorem w_c26 : (Jvm.Cond.code ({ cls := "java/util/Optional", name := "<init>", desc := "(Ljava/lang/Object;)V" } : Jvm.MethodName) jdk_32_method_2_code (2 : Nat) (Option.none : Option Jvm.ClassFile.FieldType)).before args0 about1 = true := code_word (m := ⟨9, 1⟩) (meth := k9m1) (c := k9c1) (by decide +kernel) rfl rfl rfl (by decide +kernel)
set_option maxRecDepth 65536 in
theorem w_c27 : (Jvm.Cond.code ({ cls := "java/lang/String", name := "equals", desc := "(Ljava/lang/Object;)Z" } : Jvm.MethodName) jdk_42_method_66_code (3 : Nat) (Option.some Jvm.ClassFile.FieldType.boolean)).before args0 about1 = true := code_word (m := ⟨7, 4⟩) (meth := k7m4) (c := k7c4) (by decide +kernel) rfl rfl rfl (by decide +kernel)
def codes1 : List Jvm.Cond := [Jvm.Cond.code x code maxLocals ret, Jvm.Cond.code ({ cls := "java/lang/String", name := "valueOf", desc := "(C)Ljava/lang/String;" } : Jvm.MethodName) jdk_42_method_139_code (1 : Nat) (Option.some (Jvm.ClassFile.FieldType.object "java/lang/String")), Jvm.Cond.code ({ cls := "java/lang/StringLatin1", name := "canEncode", desc := "(C)Z" } : Jvm.MethodName) jdk_43_method_3_code (1 : Nat) (Option.some Jvm.ClassFile.FieldType.boolean), Jvm.Cond.code ({ cls := "java/lang/StringLatin1", name := "toBytes", desc := "(C)[B" } : Jvm.MethodName) jdk_43_method_46_code (1 : Nat) (Option.some (Jvm.ClassFile.FieldType.array Jvm.ClassFile.FieldType.byte)), Jvm.Cond.code ({ cls := "java/lang/String", name := "<init>", desc := "([BB)V" } : Jvm.MethodName) jdk_42_method_151_code (3 : Nat) (Option.none : Option Jvm.ClassFile.FieldType), Jvm.Cond.code ({ cls := "java/lang/Object", name := "<init>", desc := "()V" } : Jvm.MethodName) object_method_1_code (1 : Nat) (Option.none : Option Jvm.ClassFile.FieldType), Jvm.Cond.code ({ cls := "java/util/Optional", name := "empty", desc := "()Ljava/util/Optional;" } : Jvm.MethodName) jdk_32_method_1_code (1 : Nat) (Option.some (Jvm.ClassFile.FieldType.object "java/util/Optional")), Jvm.Cond.code ({ cls := "com/example/strict_url/stricturl/url/GopherUrl", name := "<init>", desc := "(Ljava/lang/String;Ljava/lang/String;Ljava/util/Optional;Ljava/util/Optional;Ljava/lang/String;Ljava/util/Optional;Ljava/util/Optional;)V" } : Jvm.MethodName) prog_33_method_1_code (8 : Nat) (Option.none : Option Jvm.ClassFile.FieldType), Jvm.Cond.code ({ cls := "java/lang/Record", name := "<init>", desc := "()V" } : Jvm.MethodName) jdk_30_method_1_code (1 : Nat) (Option.none : Option Jvm.ClassFile.FieldType), Jvm.Cond.code ({ cls := "java/util/Objects", name := "requireNonNull", desc := "(Ljava/lang/Object;Ljava/lang/String;)Ljava/lang/Object;" } : Jvm.MethodName) jdk_31_method_11_code (2 : Nat) (Option.some (Jvm.ClassFile.FieldType.object "java/lang/Object")), Jvm.Cond.code ({ cls := "com/example/strict_url/stricturl/url/GopherUrl", name := "effectiveType", desc := "()Ljava/lang/String;" } : Jvm.MethodName) prog_33_method_3_code (1 : Nat) (Option.some (Jvm.ClassFile.FieldType.object "java/lang/String")), Jvm.Cond.code ({ cls := "java/util/Optional", name := "orElse", desc := "(Ljava/lang/Object;)Ljava/lang/Object;" } : Jvm.MethodName) jdk_32_method_15_code (2 : Nat) (Option.some (Jvm.ClassFile.FieldType.object "java/lang/Object")), Jvm.Cond.code ({ cls := "java/lang/String", name := "length", desc := "()I" } : Jvm.MethodName) jdk_42_method_54_code (1 : Nat) (Option.some Jvm.ClassFile.FieldType.int), Jvm.Cond.code ({ cls := "java/lang/String", name := "coder", desc := "()B" } : Jvm.MethodName) jdk_42_method_152_code (1 : Nat) (Option.some Jvm.ClassFile.FieldType.byte), Jvm.Cond.code ({ cls := "java/lang/String", name := "charAt", desc := "(I)C" } : Jvm.MethodName) jdk_42_method_56_code (2 : Nat) (Option.some Jvm.ClassFile.FieldType.char), Jvm.Cond.code ({ cls := "java/lang/String", name := "isLatin1", desc := "()Z" } : Jvm.MethodName) jdk_42_method_154_code (1 : Nat) (Option.some Jvm.ClassFile.FieldType.boolean), Jvm.Cond.code ({ cls := "java/lang/StringLatin1", name := "charAt", desc := "([BI)C" } : Jvm.MethodName) jdk_43_method_2_code (2 : Nat) (Option.some Jvm.ClassFile.FieldType.char), Jvm.Cond.code ({ cls := "java/lang/String", name := "checkIndex", desc := "(II)V" } : Jvm.MethodName) jdk_42_method_155_code (2 : Nat) (Option.none : Option Jvm.ClassFile.FieldType), Jvm.Cond.code ({ cls := "jdk/internal/util/Preconditions", name := "checkIndex", desc := "(IILjava/util/function/BiFunction;)I" } : Jvm.MethodName) jdk_41_method_11_code (3 : Nat) (Option.some Jvm.ClassFile.FieldType.int), Jvm.Cond.code ({ cls := "java/lang/String", name := "<init>", desc := "([C)V" } : Jvm.MethodName) jdk_42_method_3_code (2 : Nat) (Option.none : Option Jvm.ClassFile.FieldType), Jvm.Cond.code ({ cls := "java/lang/String", name := "<init>", desc := "([CIILjava/lang/Void;)V" } : Jvm.MethodName) jdk_42_method_149_code (6 : Nat) (Option.none : Option Jvm.ClassFile.FieldType), Jvm.Cond.code ({ cls := "java/lang/StringUTF16", name := "compress", desc := "([CII)[B" } : Jvm.MethodName) jdk_52_method_16_code (6 : Nat) (Option.some (Jvm.ClassFile.FieldType.array Jvm.ClassFile.FieldType.byte)), Jvm.Cond.code ({ cls := "java/lang/StringUTF16", name := "compress", desc := "([CI[BII)I" } : Jvm.MethodName) jdk_52_method_21_code (7 : Nat) (Option.some Jvm.ClassFile.FieldType.int), Jvm.Cond.code ({ cls := "java/lang/StringUTF16", name := "coderFromArrayLen", desc := "([BI)B" } : Jvm.MethodName) jdk_52_method_15_code (2 : Nat) (Option.some Jvm.ClassFile.FieldType.byte), Jvm.Cond.code ({ cls := "java/util/Optional", name := "of", desc := "(Ljava/lang/Object;)Ljava/util/Optional;" } : Jvm.MethodName) jdk_32_method_3_code (1 : Nat) (Option.some (Jvm.ClassFile.FieldType.object "java/util/Optional")), Jvm.Cond.code ({ cls := "java/util/Objects", name := "requireNonNull", desc := "(Ljava/lang/Object;)Ljava/lang/Object;" } : Jvm.MethodName) jdk_31_method_10_code (1 : Nat) (Option.some (Jvm.ClassFile.FieldType.object "java/lang/Object")), Jvm.Cond.code ({ cls := "java/util/Optional", name := "<init>", desc := "(Ljava/lang/Object;)V" } : Jvm.MethodName) jdk_32_method_2_code (2 : Nat) (Option.none : Option Jvm.ClassFile.FieldType), Jvm.Cond.code ({ cls := "java/lang/String", name := "equals", desc := "(Ljava/lang/Object;)Z" } : Jvm.MethodName) jdk_42_method_66_code (3 : Nat) (Option.some Jvm.ClassFile.FieldType.boolean)]
set_option maxRecDepth 65536 in
theorem codes_eq : words1.filter isCode = codes1 := rfl
theorem w_codes : ∀ c ∈ words1.filter isCode, c.before args0 about1 = true := by
  rw [codes_eq]
  intro c hc
  simp only [codes1, List.mem_cons, List.not_mem_nil, or_false] at hc
  rcases hc with rfl | rfl | rfl | rfl | rfl | rfl | rfl | rfl | rfl | rfl | rfl | rfl | rfl | rfl | rfl | rfl | rfl | rfl | rfl | rfl | rfl | rfl | rfl | rfl | rfl | rfl | rfl | rfl
  · exact w_c0
  · exact w_c1
  · exact w_c2
  · exact w_c3
  · exact w_c4
  · exact w_c5
  · exact w_c6
  · exact w_c7
  · exact w_c8
  · exact w_c9
  · exact w_c10
  · exact w_c11
  · exact w_c12
  · exact w_c13
  · exact w_c14
  · exact w_c15
  · exact w_c16
  · exact w_c17
  · exact w_c18
  · exact w_c19
  · exact w_c20
  · exact w_c21
  · exact w_c22
  · exact w_c23
  · exact w_c24
  · exact w_c25
  · exact w_c26
  · exact w_c27
set_option maxRecDepth 65536 in
theorem w_t1 : (words1.take 24).all (fun c => isCode c || c.before args0 about1) = true := by decide +kernel
set_option maxRecDepth 65536 in
theorem w_t2 : ((words1.drop 24).take 24).all (fun c => isCode c || c.before args0 about1) = true := by decide +kernel
set_option maxRecDepth 65536 in
theorem w_t3 : (((words1.drop 24).drop 24).take 24).all (fun c => isCode c || c.before args0 about1) = true := by decide +kernel
set_option maxRecDepth 65536 in
theorem w_t4 : ((((words1.drop 24).drop 24).drop 24).take 24).all (fun c => isCode c || c.before args0 about1) = true := by decide +kernel
set_option maxRecDepth 65536 in
theorem w_t5 : (((((words1.drop 24).drop 24).drop 24).drop 24).take 24).all (fun c => isCode c || c.before args0 about1) = true := by decide +kernel
set_option maxRecDepth 65536 in
theorem w_t6 : ((((((words1.drop 24).drop 24).drop 24).drop 24).drop 24).take 24).all (fun c => isCode c || c.before args0 about1) = true := by decide +kernel
set_option maxRecDepth 65536 in
theorem w_t7 : ((((((words1.drop 24).drop 24).drop 24).drop 24).drop 24).drop 24).all (fun c => isCode c || c.before args0 about1) = true := by decide +kernel
theorem w_tables : (allAtoms (Jvm.Cond.code x code maxLocals ret :: tables_1)).before args0 about1 = true := by
  rw [allAtoms_all]
  show words1.all (fun c => c.before args0 about1) = true
  refine all_split ?_ w_codes
  rw [← List.take_append_drop 24 words1, List.all_append, w_t1, ← List.take_append_drop 24 (words1.drop 24), List.all_append, w_t2, ← List.take_append_drop 24 ((words1.drop 24).drop 24), List.all_append, w_t3, ← List.take_append_drop 24 (((words1.drop 24).drop 24).drop 24), List.all_append, w_t4, ← List.take_append_drop 24 ((((words1.drop 24).drop 24).drop 24).drop 24), List.all_append, w_t5, ← List.take_append_drop 24 (((((words1.drop 24).drop 24).drop 24).drop 24).drop 24), List.all_append, w_t6, w_t7]
  rfl
set_option maxRecDepth 65536 in
theorem w_rest : rest_1_c.before args0 about1 = true := by decide +kernel
set_option maxRecDepth 65536 in
theorem w_case : (Jvm.Cond.and given_1 narrow_1).before args0 about1 = true := by decide +kernel
set_option maxRecDepth 65536 in
theorem w_consts : constsHeld consts_1 about1 := Jvm.Lit.constsHeldB_iff.mp (by decide +kernel)
theorem w_applies : (headSpec (Jvm.Cond.code x code maxLocals ret :: tables_1) room_1).applies x e0.platform about1 = true :=
  (Spec.applies_iff w_frames).mpr ⟨w_running, w_runnable, w_alone, w_named, w_hears, w_ripe, w_room, w_tables⟩
theorem atStart : AtStart classFile x code maxLocals ret World_1 tables_1 room_1 Calls_1 rest_1 Pre_1 launch0 p0 e0 about1 theMethod args0 below0 :=
  ⟨lists_1, trivial, launch0.admits_env _ _ _, launch0.least_env, fairChoices_fair.cas, fairChoices_fair.clock, w_frames, w_args, w_heap, w_applies, ⟨w_consts, trivial⟩, w_rest, w_case⟩
end start1
theorem witness_1 : WitnessClaimed_1 := ⟨start1.p0, start1.e0, start1.about1, start1.theMethod, start1.args0, start1.below0, start1.atStart⟩
end Jvm.Pilot.@@N@@
