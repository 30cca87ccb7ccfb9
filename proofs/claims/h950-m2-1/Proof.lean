import JvmDerived
import JvmDerived.Pilot.@@N@@Statement
import JvmDerived.Pilot.@@N@@Code
set_option linter.unusedVariables false
set_option linter.unusedSimpArgs false
@@BLOCK:NumsL.lean.txt@@
/- laws to paste: Road.backV, Road.eqW, Road.codOf (cut by pick.py; bodies as the Statement names them) -/
namespace Jvm.Pilot.@@N@@
namespace StrChars
open Jvm Sem ClassFile Op Lib Jvm.Stand Jvm.Free.XT Jvm.Free.ALB Jvm.Free.JM Jvm.Free
open Jvm.Lib.Cold (StaticIs)
/-- a char array whose places are chars -/
def Ch (a : Addr) (A : Cell) (U : State) : Prop := Arr .char a A U ∧ Typed .char A
theorem Ch.mv {a : Addr} {A : Cell} {U U' : State} (h : Ch a A U) (hal : U.vm.Alike U'.vm) (hh : U'.heap = U.heap) : Ch a A U' := ⟨h.1.mv hal hh, h.2⟩
theorem Ch.keep {a : Addr} {A : Cell} {U U' : State} (h : Ch a A U) (hal : U.vm.Alike U'.vm) (hk : U'.heap[a]? = some A) : Ch a A U' := ⟨h.1.keep hal hk, h.2⟩
/-- what place i of a char[]'s cell holds -/
def cv (A : Cell) (i : Nat) : Int32 := match A.slots[i]? with | some (.int x) => x | _ => 0
theorem Ch.get {a : Addr} {A : Cell} {U : State} (h : Ch a A U) {i : Nat} (hi : i < A.slots.size) : A.slots[i]? = some (.int (cv A i)) := by
  have e := Array.getElem?_eq_getElem hi
  have f := h.2 i _ e
  unfold cv; rw [e]
  generalize A.slots[i] = v at f
  cases v <;> simp [fits] at f ⊢
/-- the byte that i2b leaves of a char -/
def lo8 (x : Int32) : Int32 := x.toInt8.toInt32
theorem fits_lo8 (y : Int32) : fits .byte (.int (lo8 y)) = true := by
  have h1 := y.toInt8.le_toInt
  have h2 := y.toInt8.toInt_lt
  simp only [lo8, fits, Bool.and_eq_true, decide_eq_true_eq, Int32.le_iff_toInt_le, Int8.toInt_toInt32, show (-128 : Int32).toInt = -128 from by decide, show (127 : Int32).toInt = 127 from by decide]
  omega
/-- A' is A but that each place j of lo .. hi - 1 holds f j -/
def Laid (A A' : Cell) (lo hi : Nat) (f : Nat → Value) : Prop := A'.cls = A.cls ∧ A'.vm = A.vm ∧ A'.slots.size = A.slots.size ∧ ∀ i, A'.slots[i]? = if lo ≤ i ∧ i < hi then some (f i) else A.slots[i]?
theorem Laid.zero (A : Cell) (lo : Nat) (f : Nat → Value) : Laid A A lo (lo + 0) f := ⟨rfl, rfl, rfl, fun i => by rw [if_neg (by omega)]⟩
theorem Laid.step {A Ak : Cell} {lo k : Nat} {f : Nat → Value} {v : Value} (h : Laid A Ak lo k f) (hlo : lo ≤ k) (hk : k < Ak.slots.size) (hv : v = f k) : Laid A (Ak.setSlot k v) lo (k + 1) f := by
  refine ⟨h.1, h.2.1, by simpa [Cell.setSlot] using h.2.2.1, fun i => ?_⟩
  by_cases e : k = i
  · subst e; rw [Cell.slots_setSlot_self v hk, if_pos (by omega), hv]
  · rw [Cell.slots_setSlot_ne v e, h.2.2.2 i]
    by_cases q : lo ≤ i ∧ i < k
    · rw [if_pos q, if_pos (by omega)]
    · rw [if_neg q, if_neg (by omega)]
def U16 : String := "java/lang/StringUTF16"
namespace Cmp5
def yN : MethodName := ⟨"java/lang/StringUTF16", "compress", "([CI[BII)I"⟩
abbrev yB : ByteArray := jdk_52_method_21_code
theorem d0 : decode yB 0 = .ok (.iconst 0, 1) := by decide +kernel
theorem d1 : decode yB 1 = .ok (.istore 5, 2) := by decide +kernel
theorem d3 : decode yB 3 = .ok (.iload 5, 2) := by decide +kernel
theorem d5 : decode yB 5 = .ok (.iload 4, 2) := by decide +kernel
theorem d7 : decode yB 7 = .ok (.if_icmp (.ge) 37, 3) := by decide +kernel
theorem d10 : decode yB 10 = .ok (.aload_n 0, 1) := by decide +kernel
theorem d11 : decode yB 11 = .ok (.iload_n 1, 1) := by decide +kernel
theorem d12 : decode yB 12 = .ok (.caload, 1) := by decide +kernel
theorem d13 : decode yB 13 = .ok (.istore 6, 2) := by decide +kernel
theorem d15 : decode yB 15 = .ok (.iload 6, 2) := by decide +kernel
theorem d17 : decode yB 17 = .ok (.sipush 255, 3) := by decide +kernel
theorem d20 : decode yB 20 = .ok (.if_icmp (.le) 6, 3) := by decide +kernel
theorem d26 : decode yB 26 = .ok (.aload_n 2, 1) := by decide +kernel
theorem d27 : decode yB 27 = .ok (.iload_n 3, 1) := by decide +kernel
theorem d28 : decode yB 28 = .ok (.iload 6, 2) := by decide +kernel
theorem d30 : decode yB 30 = .ok (.i2b, 1) := by decide +kernel
theorem d31 : decode yB 31 = .ok (.bastore, 1) := by decide +kernel
theorem d32 : decode yB 32 = .ok (.iinc 1 1, 3) := by decide +kernel
theorem d35 : decode yB 35 = .ok (.iinc 3 1, 3) := by decide +kernel
theorem d38 : decode yB 38 = .ok (.iinc 5 1, 3) := by decide +kernel
theorem d41 : decode yB 41 = .ok (.goto (-38), 3) := by decide +kernel
theorem d44 : decode yB 44 = .ok (.iload 4, 2) := by decide +kernel
theorem d46 : decode yB 46 = .ok (.ireturn, 1) := by decide +kernel
def site : List Cond := []
def tab : Cond := tabOf yN yB 7 (some .int) site
def P (b : Addr) (A : Cell) (d : Addr) (B : Cell) (o q len : Nat) (args : Array Value) (s : State) : Prop := args = #[.ref b, .int (Int32.ofNat o), .ref d, .int (Int32.ofNat q), .int (Int32.ofNat len)] ∧ Ch b A s ∧ Arr .byte d B s ∧ b ≠ d ∧ o + len ≤ A.slots.size ∧ q + len ≤ B.slots.size ∧ ∀ i, i < len → ¬ 255 < cv A (o + i)
def E (b : Addr) (A : Cell) (d : Addr) (B : Cell) (o q len : Nat) (r : Option Value) (s u : State) : Prop := r = some (.int (Int32.ofNat len)) ∧ ∃ B', Put d B' s u ∧ Laid B B' q (q + len) (fun j => Value.int (lo8 (cv A (o + (j - q)))))
/-- no char of the range above 255: len; the places written hold each char's low byte -/
theorem law (l : Launch) (b : Addr) (A : Cell) (d : Addr) (B : Cell) (o q len : Nat) : Law l yN 5 5 0 0 yB 7 (some .int) site (P b A d B o q len) (E b A d B o q len) (copyLocs d q len) 0 0 := by
  refine Law.of_walk (plainFor_of_name (by decide +kernel)) (by decide +kernel) (by decide +kernel) (by decide) (fun _ _ h => by rw [h.1]; rfl) (fun _ U U' hal hh h => ⟨h.1, h.2.1.mv hal hh, h.2.2.1.mv hal hh, h.2.2.2⟩) (fun r U U' V V' h1 hal h2 h => ⟨h.1, h.2.elim fun B' q => ⟨B', q.1.mv h1 h2, q.2⟩⟩) ?_
  intro p e s m args below meth c s₁ X0 hexec hbytes hml hret hlk hnm hown hh0 W hP
  obtain ⟨rfl, hA, hB, hne, l1, l2, hp⟩ := hP
  have c1 : Steps p.tables e below (s₁.setTop (entryFrame m #[.ref b, .int (Int32.ofNat o), .ref d, .int (Int32.ofNat q), .int (Int32.ofNat len)] 7)) (s₁.setTop (mkF m 0 #[.val (.ref b), .val (.int (Int32.ofNat o)), .val (.ref d), .val (.int (Int32.ofNat q)), .val (.int (Int32.ofNat len)), .unset, .unset] [])) := entry rfl
  have hA0 := hA.1.mv X0.warmed.alike hh0
  have hB0 := hB.mv X0.warmed.alike hh0
  have a31 := hA.1.2.2.2
  have c2 : Steps p.tables e below (s₁.setTop (entryFrame m #[.ref b, .int (Int32.ofNat o), .ref d, .int (Int32.ofNat q), .int (Int32.ofNat len)] 7)) (s₁.setTop (mkF m 3 #[.val (.ref b), .val (.int (Int32.ofNat o)), .val (.ref d), .val (.int (Int32.ofNat q)), .val (.int (Int32.ofNat len)), .val (.int 0), .unset] [])) := c1.trans (by
    refine iconstV X0.here hexec rfl 0 (hb hbytes d0) (by decide) ?_
    refine XS.istore X0.here hexec rfl (hb hbytes d1) rfl rfl ?_
    exact Steps.refl _)
  have loop : ∀ (r i : Nat), i + r = len → ∀ (z : Slot), (z = .unset ∨ ∃ w, z = .val w ∧ w.category = 1) → ∀ (Tl : State) (Bk : Cell), Stand p l e { frames := 0, locals := 0, cells := 0, slots := 0 } s m #[.ref b, .int (Int32.ofNat o), .ref d, .int (Int32.ofNat q), .int (Int32.ofNat len)] below meth c Tl ([] ++ copyLocs d q i) 0 0 → Put d Bk s₁ Tl → Laid B Bk q (q + i) (fun j => Value.int (lo8 (cv A (o + (j - q))))) →
      Steps p.tables e below (s₁.setTop (entryFrame m #[.ref b, .int (Int32.ofNat o), .ref d, .int (Int32.ofNat q), .int (Int32.ofNat len)] 7)) (Tl.setTop (mkF m 3 #[.val (.ref b), .val (.int (Int32.ofNat (o + i))), .val (.ref d), .val (.int (Int32.ofNat (q + i))), .val (.int (Int32.ofNat len)), .val (.int (Int32.ofNat i)), z] [])) → ∃ (T' : State) (B' : Cell) (z' : Slot), Stand p l e { frames := 0, locals := 0, cells := 0, slots := 0 } s m #[.ref b, .int (Int32.ofNat o), .ref d, .int (Int32.ofNat q), .int (Int32.ofNat len)] below meth c T' ([] ++ copyLocs d q len) 0 0 ∧ Put d B' s₁ T' ∧ Laid B B' q (q + len) (fun j => Value.int (lo8 (cv A (o + (j - q))))) ∧
      Steps p.tables e below (s₁.setTop (entryFrame m #[.ref b, .int (Int32.ofNat o), .ref d, .int (Int32.ofNat q), .int (Int32.ofNat len)] 7)) (T'.setTop (mkF m 3 #[.val (.ref b), .val (.int (Int32.ofNat (o + len))), .val (.ref d), .val (.int (Int32.ofNat (q + len))), .val (.int (Int32.ofNat len)), .val (.int (Int32.ofNat len)), z'] [])) := by
    intro r
    induction r with
    | zero =>
      intro i hi z hz Tl Bk Xl pl fl cl
      have hil : i = len := by omega
      rw [hil] at Xl fl cl
      exact ⟨Tl, Bk, z, Xl, pl, fl, cl⟩
    | succ r ih =>
      intro i hi z hz Tl Bk Xl pl fl cl
      have all := X0.warmed.alike.symm.trans Xl.warmed.alike
      have hAl := hA0.keep all (pl.other hne hA0.1)
      have hBk := hB0.like all pl.1 fl.1 fl.2.1 fl.2.2.1
      have hlt : q + i < Bk.slots.size := by rw [fl.2.2.1]; omega
      have c3 : Steps p.tables e below (s₁.setTop (entryFrame m #[.ref b, .int (Int32.ofNat o), .ref d, .int (Int32.ofNat q), .int (Int32.ofNat len)] 7)) (Tl.setTop (mkF m 12 #[.val (.ref b), .val (.int (Int32.ofNat (o + i))), .val (.ref d), .val (.int (Int32.ofNat (q + i))), .val (.int (Int32.ofNat len)), .val (.int (Int32.ofNat i)), z] [.int (Int32.ofNat (o + i)), .ref b])) := cl.trans (by
        refine XS.iload Xl.here hexec rfl (hb hbytes d3) rfl ?_
        refine XS.iload Xl.here hexec rfl (hb hbytes d5) rfl ?_
        refine XS.icmpNo Xl.here hexec rfl (hb hbytes d7) rfl (ii_ge_f (lt32 (by omega) (by omega))) ?_
        refine XS.aloadN Xl.here hexec rfl (hb hbytes d10) rfl rfl ?_
        refine XS.iloadN Xl.here hexec rfl (hb hbytes d11) rfl ?_
        exact Steps.refl _)
      have c4 : Steps p.tables e below (s₁.setTop (entryFrame m #[.ref b, .int (Int32.ofNat o), .ref d, .int (Int32.ofNat q), .int (Int32.ofNat len)] 7)) (Tl.setTop (mkF m 13 #[.val (.ref b), .val (.int (Int32.ofNat (o + i))), .val (.ref d), .val (.int (Int32.ofNat (q + i))), .val (.int (Int32.ofNat len)), .val (.int (Int32.ofNat i)), z] [.int (cv A (o + i))])) := c3.trans (by
        refine Xl.aget hexec hAl rfl (hA.get (i := o + i) (by omega)) rfl rfl (hb hbytes d12) ?_
        exact Steps.refl _)
      have c5 : Steps p.tables e below (s₁.setTop (entryFrame m #[.ref b, .int (Int32.ofNat o), .ref d, .int (Int32.ofNat q), .int (Int32.ofNat len)] 7)) (Tl.setTop (mkF m 15 #[.val (.ref b), .val (.int (Int32.ofNat (o + i))), .val (.ref d), .val (.int (Int32.ofNat (q + i))), .val (.int (Int32.ofNat len)), .val (.int (Int32.ofNat i)), .val (.int (cv A (o + i)))] [])) := c4.trans (by
        refine XS.istoreS Xl.here hexec rfl (hb hbytes d13) rfl rfl hz ?_
        exact Steps.refl _)
      have c6 : Steps p.tables e below (s₁.setTop (entryFrame m #[.ref b, .int (Int32.ofNat o), .ref d, .int (Int32.ofNat q), .int (Int32.ofNat len)] 7)) (Tl.setTop (mkF m 31 #[.val (.ref b), .val (.int (Int32.ofNat (o + i))), .val (.ref d), .val (.int (Int32.ofNat (q + i))), .val (.int (Int32.ofNat len)), .val (.int (Int32.ofNat i)), .val (.int (cv A (o + i)))] [.int (lo8 (cv A (o + i))), .int (Int32.ofNat (q + i)), .ref d])) := c5.trans (by
        refine XS.iload Xl.here hexec rfl (hb hbytes d15) rfl ?_
        refine sipushV Xl.here hexec rfl 255 (hb hbytes d17) (by decide) ?_
        refine XS.icmpYes Xl.here hexec rfl (pc0 := 20) rfl (hb hbytes d20) rfl (ii_le_t (hp i (by omega))) (by decide) rfl ?_
        refine XS.aloadN Xl.here hexec rfl (hb hbytes d26) rfl rfl ?_
        refine XS.iloadN Xl.here hexec rfl (hb hbytes d27) rfl ?_
        refine XS.iload Xl.here hexec rfl (hb hbytes d28) rfl ?_
        refine i2b Xl.here hexec rfl (hb hbytes d30) rfl ?_
        exact Steps.refl _)
      obtain ⟨T7, X7, p7, st7⟩ := Xl.aput hexec hBk rfl hlt rfl (fits_lo8 (cv A (o + i))) (g := (mkF m 31 #[.val (.ref b), .val (.int (Int32.ofNat (o + i))), .val (.ref d), .val (.int (Int32.ofNat (q + i))), .val (.int (Int32.ofNat len)), .val (.int (Int32.ofNat i)), .val (.int (cv A (o + i)))] [.int (lo8 (cv A (o + i))), .int (Int32.ofNat (q + i)), .ref d])) rfl (rest := []) rfl (hb hbytes d31)
      have c8 : Steps p.tables e below (s₁.setTop (entryFrame m #[.ref b, .int (Int32.ofNat o), .ref d, .int (Int32.ofNat q), .int (Int32.ofNat len)] 7)) (T7.setTop (mkF m 32 #[.val (.ref b), .val (.int (Int32.ofNat (o + i))), .val (.ref d), .val (.int (Int32.ofNat (q + i))), .val (.int (Int32.ofNat len)), .val (.int (Int32.ofNat i)), .val (.int (cv A (o + i)))] [])) := c6.trans (st7 _ (Steps.refl _))
      have c9 : Steps p.tables e below (s₁.setTop (entryFrame m #[.ref b, .int (Int32.ofNat o), .ref d, .int (Int32.ofNat q), .int (Int32.ofNat len)] 7)) (T7.setTop (mkF m 3 #[.val (.ref b), .val (.int (Int32.ofNat (o + i) + 1)), .val (.ref d), .val (.int (Int32.ofNat (q + i) + 1)), .val (.int (Int32.ofNat len)), .val (.int (Int32.ofNat i + 1)), .val (.int (cv A (o + i)))] [])) := c8.trans (by
        refine iincV X7.here hexec rfl 1 (hb hbytes d32) (by decide) rfl rfl ?_
        refine iincV X7.here hexec rfl 1 (hb hbytes d35) (by decide) rfl rfl ?_
        refine iincV X7.here hexec rfl 1 (hb hbytes d38) (by decide) rfl rfl ?_
        refine XS.goto X7.here hexec rfl (pc0 := 41) rfl (hb hbytes d41) (by decide) rfl ?_
        exact Steps.refl _)
      have c10 : Steps p.tables e below (s₁.setTop (entryFrame m #[.ref b, .int (Int32.ofNat o), .ref d, .int (Int32.ofNat q), .int (Int32.ofNat len)] 7)) (T7.setTop (mkF m 3 #[.val (.ref b), .val (.int (Int32.ofNat (o + (i + 1)))), .val (.ref d), .val (.int (Int32.ofNat (q + (i + 1)))), .val (.int (Int32.ofNat len)), .val (.int (Int32.ofNat (i + 1))), .val (.int (cv A (o + i)))] [])) := by
        have := c9
        rw [succ32, succ32, succ32] at this
        exact this
      exact ih (i + 1) (by omega) _ (Or.inr ⟨_, rfl, rfl⟩) T7 _ (by rw [copyLocs_step, ← List.append_assoc]; exact X7) (pl.trans p7) (fl.step (by omega) hlt (by simp)) c10
  obtain ⟨T9, B9, z9, X9, p9, f9, g9⟩ := loop len 0 (by omega) .unset (Or.inl rfl) s₁ B (by simpa [copyLocs] using X0) ⟨hB0.1, fun _ _ => rfl, rfl⟩ (Laid.zero _ _ _) c2
  have c11 : Steps p.tables e below (s₁.setTop (entryFrame m #[.ref b, .int (Int32.ofNat o), .ref d, .int (Int32.ofNat q), .int (Int32.ofNat len)] 7)) (T9.setTop (mkF m 46 #[.val (.ref b), .val (.int (Int32.ofNat (o + len))), .val (.ref d), .val (.int (Int32.ofNat (q + len))), .val (.int (Int32.ofNat len)), .val (.int (Int32.ofNat len)), z9] [.int (Int32.ofNat len)])) := g9.trans (by
    refine XS.iload X9.here hexec rfl (hb hbytes d3) rfl ?_
    refine XS.iload X9.here hexec rfl (hb hbytes d5) rfl ?_
    refine XS.icmpYes X9.here hexec rfl (pc0 := 7) rfl (hb hbytes d7) rfl (ii_ge_t (nlt32 (by omega) (Nat.le_refl _))) (by decide) rfl ?_
    refine XS.iload X9.here hexec rfl (hb hbytes d44) rfl ?_
    exact Steps.refl _)
  exact ⟨T9, some (.int (Int32.ofNat len)), _, _, _, X9, by simp, rfl, rfl, (fun h => by cases h), ⟨rfl, B9, p9.from hh0, f9⟩, fun fs hl => c11.trans (X9.ireturnOut hexec hret rfl (Or.inl rfl) (hb hbytes d46) hl)⟩
end Cmp5
namespace Cmp3
def yN : MethodName := ⟨"java/lang/StringUTF16", "compress", "([CII)[B"⟩
abbrev yB : ByteArray := jdk_52_method_16_code
theorem d0 : decode yB 0 = .ok (.iload_n 2, 1) := by decide +kernel
theorem d1 : decode yB 1 = .ok (.newarray .byte, 2) := by decide +kernel
theorem d3 : decode yB 3 = .ok (.astore_n 3, 1) := by decide +kernel
theorem d4 : decode yB 4 = .ok (.aload_n 0, 1) := by decide +kernel
theorem d5 : decode yB 5 = .ok (.iload_n 1, 1) := by decide +kernel
theorem d6 : decode yB 6 = .ok (.aload_n 3, 1) := by decide +kernel
theorem d7 : decode yB 7 = .ok (.iconst 0, 1) := by decide +kernel
theorem d8 : decode yB 8 = .ok (.iload_n 2, 1) := by decide +kernel
theorem d9 : decode yB 9 = .ok (.invokestatic 115, 3) := by decide +kernel
theorem d12 : decode yB 12 = .ok (.istore 4, 2) := by decide +kernel
theorem d14 : decode yB 14 = .ok (.iload 4, 2) := by decide +kernel
theorem d16 : decode yB 16 = .ok (.iload_n 2, 1) := by decide +kernel
theorem d17 : decode yB 17 = .ok (.if_icmp (.eq) 40, 3) := by decide +kernel
theorem d57 : decode yB 57 = .ok (.aload_n 3, 1) := by decide +kernel
theorem d58 : decode yB 58 = .ok (.areturn, 1) := by decide +kernel
def site : List Cond := [.arrayClass .byte, Cmp5.tab] ++ staticW U16 115 Cmp5.yN
def tab : Cond := tabOf yN yB 6 (some (.array .byte)) site
def P (b : Addr) (A : Cell) (o len : Nat) (args : Array Value) (s : State) : Prop := args = #[.ref b, .int (Int32.ofNat o), .int (Int32.ofNat len)] ∧ Ch b A s ∧ o + len ≤ A.slots.size ∧ len ≤ 536870912 ∧ ∀ i, i < len → ¬ 255 < cv A (o + i)
def E (b : Addr) (A : Cell) (o len : Nat) (r : Option Value) (s u : State) : Prop := NewArr .byte "[B" len (fun j => .int (lo8 (cv A (o + j)))) r s u ∧ u.heap.size = s.heap.size + 1
/-- no char of the range above 255: a new byte[] of their low bytes -/
theorem law (l : Launch) (b : Addr) (A : Cell) (o len : Nat) : Law l yN 3 3 1 18 yB 6 (some (.array .byte)) site (P b A o len) (E b A o len) [] 1 len := by
  refine Law.of_walk (plainFor_of_name (by decide +kernel)) (by decide +kernel) (by decide +kernel) (by decide) (fun _ _ h => by rw [h.1]; rfl) (fun _ U U' hal hh h => ⟨h.1, h.2.1.mv hal hh, h.2.2⟩) (fun r U U' V V' h1 hal h2 h => ⟨NewArr.mv r U U' V V' h1 hal h2 h.1, by rw [h1, h2]; exact h.2⟩) ?_
  intro p e s m args below meth c s₁ X0 hexec hbytes hml hret hlk hnm hown hh0 W hP
  obtain ⟨rfl, hA, l1, l2, hp⟩ := hP
  have a31 := hA.1.2.2.2
  have c1 : Steps p.tables e below (s₁.setTop (entryFrame m #[.ref b, .int (Int32.ofNat o), .int (Int32.ofNat len)] 6)) (s₁.setTop (mkF m 0 #[.val (.ref b), .val (.int (Int32.ofNat o)), .val (.int (Int32.ofNat len)), .unset, .unset, .unset] [])) := entry rfl
  have c2 : Steps p.tables e below (s₁.setTop (entryFrame m #[.ref b, .int (Int32.ofNat o), .int (Int32.ofNat len)] 6)) (s₁.setTop (mkF m 1 #[.val (.ref b), .val (.int (Int32.ofNat o)), .val (.int (Int32.ofNat len)), .unset, .unset, .unset] [.int (Int32.ofNat len)])) := c1.trans (by
    refine XS.iloadN X0.here hexec rfl (hb hbytes d0) rfl ?_
    exact Steps.refl _)
  obtain ⟨T3, B3, X3, ba3, bs3, bv3, bh3, bf3, st3⟩ := X0.anew hexec (atype := .byte) (wk W (.arrayClass .byte)) rfl (by show len * 1 ≤ _; omega) (by omega) (g := (mkF m 1 #[.val (.ref b), .val (.int (Int32.ofNat o)), .val (.int (Int32.ofNat len)), .unset, .unset, .unset] [.int (Int32.ofNat len)])) rfl (hb hbytes d1) (rest := []) rfl (Nat.le_refl _) (by show 0 + len ≤ len; omega)
  rw [hh0] at ba3 st3
  have kp3 : XT.Kept s T3 := (XT.Kept.of_eq hh0).push bh3
  have hA3 := hA.keep X3.warmed.alike (kp3 _ _ hA.1.1)
  have hne : b ≠ s.heap.size := hA.1.ne
  have c4 : Steps p.tables e below (s₁.setTop (entryFrame m #[.ref b, .int (Int32.ofNat o), .int (Int32.ofNat len)] 6)) (T3.setTop (mkF m 3 #[.val (.ref b), .val (.int (Int32.ofNat o)), .val (.int (Int32.ofNat len)), .unset, .unset, .unset] [.ref s.heap.size])) := c2.trans (st3 _ (Steps.refl _))
  have c5 : Steps p.tables e below (s₁.setTop (entryFrame m #[.ref b, .int (Int32.ofNat o), .int (Int32.ofNat len)] 6)) (T3.setTop (mkF m 9 #[.val (.ref b), .val (.int (Int32.ofNat o)), .val (.int (Int32.ofNat len)), .val (.ref s.heap.size), .unset, .unset] [.int (Int32.ofNat len), .int 0, .ref s.heap.size, .int (Int32.ofNat o), .ref b])) := c4.trans (by
    refine XS.astoreN X3.here hexec rfl (hb hbytes d3) rfl rfl rfl ?_
    refine XS.aloadN X3.here hexec rfl (hb hbytes d4) rfl rfl ?_
    refine XS.iloadN X3.here hexec rfl (hb hbytes d5) rfl ?_
    refine XS.aloadN X3.here hexec rfl (hb hbytes d6) rfl rfl ?_
    refine iconstV X3.here hexec rfl 0 (hb hbytes d7) (by decide) ?_
    refine XS.iloadN X3.here hexec rfl (hb hbytes d8) rfl ?_
    exact Steps.refl _)
  obtain ⟨v6, T6, X6, E6, g6⟩ := X3.callS hexec (Cmp5.law l b A s.heap.size B3 o 0 len) hown (wks W (staticW U16 115 Cmp5.yN)) (wk W Cmp5.tab) (W := 0) (Nat.le_of_ble_eq_true rfl) (Nat.le_of_ble_eq_true rfl) (Nat.le_refl _) (by show 0 + len + 0 ≤ len; omega) (g := (mkF m 9 #[.val (.ref b), .val (.int (Int32.ofNat o)), .val (.int (Int32.ofNat len)), .val (.ref s.heap.size), .unset, .unset] [.int (Int32.ofNat len), .int (Int32.ofNat 0), .ref s.heap.size, .int (Int32.ofNat o), .ref b])) rfl (by rw [hml]; rfl) c5 (argsL := [.ref b, .int (Int32.ofNat o), .ref s.heap.size, .int (Int32.ofNat 0), .int (Int32.ofNat len)]) (rest := []) rfl rfl (by show 2 * 0 + 0 ≤ _; decide) (hb hbytes d9) (⟨rfl, hA3, ba3, hne, l1, by rw [bs3]; simp, hp⟩)
  obtain ⟨rfl, B6, p6, f6⟩ := E6
  have c7 : Steps p.tables e below (s₁.setTop (entryFrame m #[.ref b, .int (Int32.ofNat o), .int (Int32.ofNat len)] 6)) (T6.setTop (mkF m 12 #[.val (.ref b), .val (.int (Int32.ofNat o)), .val (.int (Int32.ofNat len)), .val (.ref s.heap.size), .unset, .unset] [.int (Int32.ofNat len)])) := g6
  have c8 : Steps p.tables e below (s₁.setTop (entryFrame m #[.ref b, .int (Int32.ofNat o), .int (Int32.ofNat len)] 6)) (T6.setTop (mkF m 58 #[.val (.ref b), .val (.int (Int32.ofNat o)), .val (.int (Int32.ofNat len)), .val (.ref s.heap.size), .val (.int (Int32.ofNat len)), .unset] [.ref s.heap.size])) := c7.trans (by
    refine XS.istore X6.here hexec rfl (hb hbytes d12) rfl rfl ?_
    refine XS.iload X6.here hexec rfl (hb hbytes d14) rfl ?_
    refine XS.iloadN X6.here hexec rfl (hb hbytes d16) rfl ?_
    refine XS.icmpYes X6.here hexec rfl (pc0 := 17) rfl (hb hbytes d17) rfl (ii_eq_t rfl) (by decide) rfl ?_
    refine XS.aloadN X6.here hexec rfl (hb hbytes d57) rfl rfl ?_
    exact Steps.refl _)
  have X8 := X6.wide (L' := []) (cells' := 1) (slots' := len) (fun x hx hlt => by
    simp only [List.nil_append, copyLocs, List.mem_map, List.mem_range] at hx
    obtain ⟨i, -, rfl⟩ := hx
    exact absurd hlt (Nat.lt_irrefl _)) (Nat.le_refl _) (by omega)
  exact ⟨T6, some (.ref s.heap.size), _, _, _, X8, rfl, rfl, rfl, (fun h => by cases h), ⟨⟨rfl, B6, ba3.like (X3.warmed.alike.symm.trans X6.warmed.alike) p6.1 f6.1 f6.2.1 f6.2.2.1, f6.2.1.trans bv3, by rw [X6.warmed.alike.findClass, f6.1]; exact bf3, by rw [f6.2.2.1, bs3]; simp, fun j hj => by rw [f6.2.2.2 j, if_pos (by omega)]; rfl, kp3.put p6 (Nat.le_refl _)⟩, by rw [p6.2.2, bh3, hh0]; simp⟩, fun fs hl => c8.trans (X8.areturnOut hexec rfl hret rfl (hb hbytes d58) hl)⟩
end Cmp3
namespace CodL
def yN : MethodName := ⟨"java/lang/StringUTF16", "coderFromArrayLen", "([BI)B"⟩
abbrev yB : ByteArray := jdk_52_method_15_code
theorem d0 : decode yB 0 = .ok (.iload_n 1, 1) := by decide +kernel
theorem d1 : decode yB 1 = .ok (.aload_n 0, 1) := by decide +kernel
theorem d2 : decode yB 2 = .ok (.arraylength, 1) := by decide +kernel
theorem d3 : decode yB 3 = .ok (.isub, 1) := by decide +kernel
theorem d4 : decode yB 4 = .ok (.bipush 31, 2) := by decide +kernel
theorem d6 : decode yB 6 = .ok (.iushr, 1) := by decide +kernel
theorem d7 : decode yB 7 = .ok (.i2b, 1) := by decide +kernel
theorem d8 : decode yB 8 = .ok (.ireturn, 1) := by decide +kernel
def site : List Cond := []
def tab : Cond := tabOf yN yB 2 (some .byte) site
def P (d : Addr) (B : Cell) (args : Array Value) (s : State) : Prop := args = #[.ref d, .int (Int32.ofNat B.slots.size)] ∧ Arr .byte d B s
def E (r : Option Value) (s u : State) : Prop := XT.PureE (some (.int 0)) r s u
/-- an array as long as the number of chars: LATIN1 -/
theorem law (l : Launch) (d : Addr) (B : Cell) : Law l yN 2 2 0 0 yB 2 (some .byte) site (P d B) E [] 0 0 := by
  refine Law.of_walk (plainFor_of_name (by decide +kernel)) (by decide +kernel) (by decide +kernel) (by decide) (fun _ _ h => by rw [h.1]; rfl) (fun _ U U' hal hh h => ⟨h.1, h.2.mv hal hh⟩) (fun r U U' V V' h1 hal h2 h => XT.PureE.mv r U U' V V' h1 hal h2 h) ?_
  intro p e s m args below meth c s₁ X0 hexec hbytes hml hret hlk hnm hown hh0 W hP
  obtain ⟨rfl, hB⟩ := hP
  have hB0 := hB.mv X0.warmed.alike hh0
  have c1 : Steps p.tables e below (s₁.setTop (entryFrame m #[.ref d, .int (Int32.ofNat B.slots.size)] 2)) (s₁.setTop (mkF m 0 #[.val (.ref d), .val (.int (Int32.ofNat B.slots.size))] [])) := entry rfl
  have c2 : Steps p.tables e below (s₁.setTop (entryFrame m #[.ref d, .int (Int32.ofNat B.slots.size)] 2)) (s₁.setTop (mkF m 2 #[.val (.ref d), .val (.int (Int32.ofNat B.slots.size))] [.ref d, .int (Int32.ofNat B.slots.size)])) := c1.trans (by
    refine XS.iloadN X0.here hexec rfl (hb hbytes d0) rfl ?_
    refine XS.aloadN X0.here hexec rfl (hb hbytes d1) rfl rfl ?_
    exact Steps.refl _)
  have c3 : Steps p.tables e below (s₁.setTop (entryFrame m #[.ref d, .int (Int32.ofNat B.slots.size)] 2)) (s₁.setTop (mkF m 8 #[.val (.ref d), .val (.int (Int32.ofNat B.slots.size))] [.int (lo8 (ushr (Int32.ofNat B.slots.size - Int32.ofNat B.slots.size) 31))])) := c2.trans (by
    refine X0.alen hexec hB0 rfl rfl (hb hbytes d2) ?_
    refine XS.isub X0.here hexec rfl (hb hbytes d3) rfl ?_
    refine bipushV X0.here hexec rfl 31 (hb hbytes d4) (by decide) ?_
    refine iushr X0.here hexec rfl (hb hbytes d6) rfl ?_
    refine i2b X0.here hexec rfl (hb hbytes d7) rfl ?_
    exact Steps.refl _)
  have e0 : lo8 (ushr (Int32.ofNat B.slots.size - Int32.ofNat B.slots.size) 31) = 0 := by rw [Int32.sub_self]; decide
  rw [e0] at c3
  exact ⟨s₁, some (.int 0), _, _, _, X0, rfl, rfl, rfl, (fun h => by cases h), ⟨rfl, hh0⟩, fun fs hl => c3.trans (X0.ireturnOut hexec hret rfl (Or.inr (Or.inr (Or.inl rfl))) (hb hbytes d8) hl)⟩
end CodL
/-- the String at a is Latin-1 over a new byte[] (the heap's one new cell): the low bytes of the len chars of A from o on; every cell but a is kept -/
def Got (a : Addr) (D : Cell) (fV fC : Field) (A : Cell) (o len : Nat) (r : Option Value) (s u : State) : Prop := r = none ∧ ∃ D' V : Cell, Blank "java/lang/String" a D' u ∧ Same D D' [fV.slot, fC.slot] ∧ D'.slots[fV.slot]? = some (.ref s.heap.size) ∧ D'.slots[fC.slot]? = some (.int 0) ∧ Arr .byte s.heap.size V u ∧ V.vm = .none ∧ u.vm.findClass "[B" = some V.cls ∧ V.slots.size = len ∧ (∀ j, j < len → V.slots[j]? = some (.int (lo8 (cv A (o + j))))) ∧ (∀ (y : Addr) (c : Cell), y ≠ a → s.heap[y]? = some c → u.heap[y]? = some c) ∧ u.heap.size = s.heap.size + 1
theorem Got.mv {a : Addr} {D A : Cell} {fV fC : Field} {o len : Nat} : ∀ r (U U' V V' : State), U'.heap = U.heap → V.vm.Alike V'.vm → V'.heap = V.heap → Got a D fV fC A o len r U V → Got a D fV fC A o len r U' V' :=
  fun r U U' V V' h1 hal h2 ⟨e0, D', X, a1, a2, a3, a4, a5, a6, a7, a8, a9, a10, a11⟩ => ⟨e0, D', X, a1.mv hal h2, a2, by rw [h1]; exact a3, a4, by rw [h1]; exact a5.mv hal h2, a6, by rw [hal.findClass]; exact a7, a8, a9, by rw [h1, h2]; exact a10, by rw [h1, h2]; exact a11⟩
namespace New4
def yN : MethodName := ⟨"java/lang/String", "<init>", "([CIILjava/lang/Void;)V"⟩
abbrev yB : ByteArray := jdk_42_method_149_code
theorem d0 : decode yB 0 = .ok (.aload_n 0, 1) := by decide +kernel
theorem d1 : decode yB 1 = .ok (.invokespecial 1, 3) := by decide +kernel
theorem d4 : decode yB 4 = .ok (.iload_n 3, 1) := by decide +kernel
theorem d5 : decode yB 5 = .ok (.ifCond (.ne) 22, 3) := by decide +kernel
theorem d27 : decode yB 27 = .ok (.getstatic 38, 3) := by decide +kernel
theorem d30 : decode yB 30 = .ok (.ifCond (.eq) 28, 3) := by decide +kernel
theorem d33 : decode yB 33 = .ok (.aload_n 1, 1) := by decide +kernel
theorem d34 : decode yB 34 = .ok (.iload_n 2, 1) := by decide +kernel
theorem d35 : decode yB 35 = .ok (.iload_n 3, 1) := by decide +kernel
theorem d36 : decode yB 36 = .ok (.invokestatic 177, 3) := by decide +kernel
theorem d39 : decode yB 39 = .ok (.astore 5, 2) := by decide +kernel
theorem d41 : decode yB 41 = .ok (.aload_n 0, 1) := by decide +kernel
theorem d42 : decode yB 42 = .ok (.aload 5, 2) := by decide +kernel
theorem d44 : decode yB 44 = .ok (.iload_n 3, 1) := by decide +kernel
theorem d45 : decode yB 45 = .ok (.invokestatic 47, 3) := by decide +kernel
theorem d48 : decode yB 48 = .ok (.putfield 15, 3) := by decide +kernel
theorem d51 : decode yB 51 = .ok (.aload_n 0, 1) := by decide +kernel
theorem d52 : decode yB 52 = .ok (.aload 5, 2) := by decide +kernel
theorem d54 : decode yB 54 = .ok (.putfield 9, 3) := by decide +kernel
theorem d57 : decode yB 57 = .ok (.return_, 1) := by decide +kernel
def site : List Cond := [.fieldLink "java/lang/String" 38 "java/lang/String" "COMPACT_STRINGS" "Z", Cmp3.tab, CodL.tab, .laysFinal "java/lang/String" "java/lang/String" "value" "[B", .fieldLink "java/lang/String" 9 "java/lang/String" "value" "[B", .laysFinal "java/lang/String" "java/lang/String" "coder" "B", .fieldLink "java/lang/String" 15 "java/lang/String" "coder" "B"] ++ objW "java/lang/String" 1 ++ staticW "java/lang/String" 177 Cmp3.yN ++ staticW "java/lang/String" 47 CodL.yN
def tab : Cond := tabOf yN yB 6 none site
def P (a : Addr) (D : Cell) (fV fC : Field) (b : Addr) (A : Cell) (z : Int32) (o len : Nat) (args : Array Value) (s : State) : Prop := args = #[.ref a, .ref b, .int (Int32.ofNat o), .int (Int32.ofNat len), .null] ∧ Blank "java/lang/String" a D s ∧ Found "java/lang/String" "value" "[B" fV s ∧ Found "java/lang/String" "coder" "B" fC s ∧ Ch b A s ∧ StaticIs s "java/lang/String" "COMPACT_STRINGS" "Z" (.int z) ∧ ¬ z = 0 ∧ 0 < len ∧ o + len ≤ A.slots.size ∧ len ≤ 536870912 ∧ ∀ i, i < len → ¬ 255 < cv A (o + i)
def E (a : Addr) (D : Cell) (fV fC : Field) (A : Cell) (o len : Nat) (r : Option Value) (s u : State) : Prop := Got a D fV fC A o len r s u
/-- len > 0, no char of the range above 255: a Latin-1 String of their low bytes -/
theorem law (l : Launch) (a : Addr) (D : Cell) (fV fC : Field) (b : Addr) (A : Cell) (z : Int32) (o len : Nat) : Law l yN 5 4 2 35 yB 6 none site (P a D fV fC b A z o len) (E a D fV fC A o len) [⟨a, fC.slot⟩, ⟨a, fV.slot⟩] 1 len := by
  refine Law.of_walk (plainFor_of_name (by decide +kernel)) (by decide +kernel) (by decide +kernel) (by decide) (fun _ _ h => by rw [h.1]; rfl) (fun _ U U' hal hh h => ⟨h.1, h.2.1.mv hal hh, h.2.2.1.al hal, h.2.2.2.1.al hal, h.2.2.2.2.1.mv hal hh, h.2.2.2.2.2.1.there hal hh, h.2.2.2.2.2.2⟩) (fun r U U' V V' h1 hal h2 h => Got.mv r U U' V V' h1 hal h2 h) ?_
  intro p e s m args below meth c s₁ X0 hexec hbytes hml hret hlk hnm hown hh0 W hP
  obtain ⟨rfl, hB, f1, f2, hA, s1, hz, l0, l1, l2, hp⟩ := hP
  have a31 := hA.1.2.2.2
  have c1 : Steps p.tables e below (s₁.setTop (entryFrame m #[.ref a, .ref b, .int (Int32.ofNat o), .int (Int32.ofNat len), .null] 6)) (s₁.setTop (mkF m 0 #[.val (.ref a), .val (.ref b), .val (.int (Int32.ofNat o)), .val (.int (Int32.ofNat len)), .val .null, .unset] [])) := entry rfl
  have c2 : Steps p.tables e below (s₁.setTop (entryFrame m #[.ref a, .ref b, .int (Int32.ofNat o), .int (Int32.ofNat len), .null] 6)) (s₁.setTop (mkF m 1 #[.val (.ref a), .val (.ref b), .val (.int (Int32.ofNat o)), .val (.int (Int32.ofNat len)), .val .null, .unset] [.ref a])) := c1.trans (by
    refine XS.aloadN X0.here hexec rfl (hb hbytes d0) rfl rfl ?_
    exact Steps.refl _)
  obtain ⟨T3, X3, q3, st3⟩ := X0.oinit hexec hown (wks W (objW "java/lang/String" 1)) (g := (mkF m 1 #[.val (.ref a), .val (.ref b), .val (.int (Int32.ofNat o)), .val (.int (Int32.ofNat len)), .val .null, .unset] [.ref a])) rfl (by rw [hml]; rfl) (rest := []) rfl (hb hbytes d1) (W := 0) (by show 2 * 0 + 0 ≤ _; decide) (Nat.le_of_ble_eq_true rfl) (Nat.le_of_ble_eq_true rfl)
  have hh3 := q3.trans hh0
  have c4 : Steps p.tables e below (s₁.setTop (entryFrame m #[.ref a, .ref b, .int (Int32.ofNat o), .int (Int32.ofNat len), .null] 6)) (T3.setTop (mkF m 27 #[.val (.ref a), .val (.ref b), .val (.int (Int32.ofNat o)), .val (.int (Int32.ofNat len)), .val .null, .unset] [])) := (c2.trans (st3 _ (Steps.refl _))).trans (by
    refine XS.iloadN X3.here hexec rfl (hb hbytes d4) rfl ?_
    refine XS.ifYes X3.here hexec rfl (pc0 := 5) rfl (hb hbytes d5) rfl (i0_ne_t (nz32 (by omega) l0)) (by decide) rfl ?_
    exact Steps.refl _)
  obtain ⟨T5, X5, q5, st5⟩ := X3.sget hexec hown (wk W (.fieldLink "java/lang/String" 38 "java/lang/String" "COMPACT_STRINGS" "Z")) s1 (fun _ _ h => by rw [hh3]; exact h) (g := (mkF m 27 #[.val (.ref a), .val (.ref b), .val (.int (Int32.ofNat o)), .val (.int (Int32.ofNat len)), .val .null, .unset] [])) rfl (hb hbytes d27)
  have hh5 := q5.trans hh3
  have c6 : Steps p.tables e below (s₁.setTop (entryFrame m #[.ref a, .ref b, .int (Int32.ofNat o), .int (Int32.ofNat len), .null] 6)) (T5.setTop (mkF m 30 #[.val (.ref a), .val (.ref b), .val (.int (Int32.ofNat o)), .val (.int (Int32.ofNat len)), .val .null, .unset] [.int z])) := c4.trans (st5 _ (Steps.refl _))
  have c7 : Steps p.tables e below (s₁.setTop (entryFrame m #[.ref a, .ref b, .int (Int32.ofNat o), .int (Int32.ofNat len), .null] 6)) (T5.setTop (mkF m 36 #[.val (.ref a), .val (.ref b), .val (.int (Int32.ofNat o)), .val (.int (Int32.ofNat len)), .val .null, .unset] [.int (Int32.ofNat len), .int (Int32.ofNat o), .ref b])) := c6.trans (by
    refine XS.ifNo X5.here hexec rfl (hb hbytes d30) rfl (i0_eq_f hz) ?_
    refine XS.aloadN X5.here hexec rfl (hb hbytes d33) rfl rfl ?_
    refine XS.iloadN X5.here hexec rfl (hb hbytes d34) rfl ?_
    refine XS.iloadN X5.here hexec rfl (hb hbytes d35) rfl ?_
    exact Steps.refl _)
  obtain ⟨v8, T8, X8, E8, g8⟩ := X5.callS hexec (Cmp3.law l b A o len) hown (wks W (staticW "java/lang/String" 177 Cmp3.yN)) (wk W Cmp3.tab) (W := 0) (Nat.le_of_ble_eq_true rfl) (Nat.le_of_ble_eq_true rfl) (Nat.le_refl _) (by show 0 + len ≤ len; omega) (g := (mkF m 36 #[.val (.ref a), .val (.ref b), .val (.int (Int32.ofNat o)), .val (.int (Int32.ofNat len)), .val .null, .unset] [.int (Int32.ofNat len), .int (Int32.ofNat o), .ref b])) rfl (by rw [hml]; rfl) c7 (argsL := [.ref b, .int (Int32.ofNat o), .int (Int32.ofNat len)]) (rest := []) rfl rfl (by show 2 * 0 + 0 ≤ _; decide) (hb hbytes d36) (⟨rfl, hA.mv X5.warmed.alike hh5, l1, l2, hp⟩)
  obtain ⟨e8, z8⟩ := E8
  obtain ⟨rfl, N, n1, n2, n3, n4, n5, n6⟩ := NewArr.mv _ T5 s _ _ hh5.symm (Vm.Alike.refl _) rfl e8
  rw [hh5] at z8
  have hB1 := hB.keep X8.warmed.alike (n6 _ _ hB.1)
  have hne : s.heap.size ≠ a := (Nat.ne_of_lt (Array.getElem?_eq_some_iff.mp hB.1).1).symm
  have c9 : Steps p.tables e below (s₁.setTop (entryFrame m #[.ref a, .ref b, .int (Int32.ofNat o), .int (Int32.ofNat len), .null] 6)) (T8.setTop (mkF m 39 #[.val (.ref a), .val (.ref b), .val (.int (Int32.ofNat o)), .val (.int (Int32.ofNat len)), .val .null, .unset] [.ref s.heap.size])) := g8
  have c10 : Steps p.tables e below (s₁.setTop (entryFrame m #[.ref a, .ref b, .int (Int32.ofNat o), .int (Int32.ofNat len), .null] 6)) (T8.setTop (mkF m 45 #[.val (.ref a), .val (.ref b), .val (.int (Int32.ofNat o)), .val (.int (Int32.ofNat len)), .val .null, .val (.ref s.heap.size)] [.int (Int32.ofNat N.slots.size), .ref s.heap.size, .ref a])) := by
    have hc : Steps p.tables e below (s₁.setTop (entryFrame m #[.ref a, .ref b, .int (Int32.ofNat o), .int (Int32.ofNat len), .null] 6)) (T8.setTop (mkF m 45 #[.val (.ref a), .val (.ref b), .val (.int (Int32.ofNat o)), .val (.int (Int32.ofNat len)), .val .null, .val (.ref s.heap.size)] [.int (Int32.ofNat len), .ref s.heap.size, .ref a])) := c9.trans (by
      refine XS.astore X8.here hexec rfl (hb hbytes d39) rfl rfl rfl ?_
      refine XS.aloadN X8.here hexec rfl (hb hbytes d41) rfl rfl ?_
      refine XS.aload X8.here hexec rfl (hb hbytes d42) rfl rfl ?_
      refine XS.iloadN X8.here hexec rfl (hb hbytes d44) rfl ?_
      exact Steps.refl _)
    rw [n4]; exact hc
  obtain ⟨v11, T11, X11, E11, g11⟩ := X8.callS hexec (CodL.law l s.heap.size N) hown (wks W (staticW "java/lang/String" 47 CodL.yN)) (wk W CodL.tab) (W := 1) (Nat.le_of_ble_eq_true rfl) (Nat.le_of_ble_eq_true rfl) (Nat.le_refl _) (by show 0 + len + 0 ≤ len; omega) (g := (mkF m 45 #[.val (.ref a), .val (.ref b), .val (.int (Int32.ofNat o)), .val (.int (Int32.ofNat len)), .val .null, .val (.ref s.heap.size)] [.int (Int32.ofNat N.slots.size), .ref s.heap.size, .ref a])) rfl (by rw [hml]; rfl) c10 (argsL := [.ref s.heap.size, .int (Int32.ofNat N.slots.size)]) (rest := [.ref a]) rfl rfl (by show 2 * 0 + (1 + 0) ≤ _; decide) (hb hbytes d45) (⟨rfl, n1⟩)
  obtain ⟨rfl, q11⟩ := E11
  have hB11 := hB1.mv (X8.warmed.alike.symm.trans X11.warmed.alike) q11
  have c12 : Steps p.tables e below (s₁.setTop (entryFrame m #[.ref a, .ref b, .int (Int32.ofNat o), .int (Int32.ofNat len), .null] 6)) (T11.setTop (mkF m 48 #[.val (.ref a), .val (.ref b), .val (.int (Int32.ofNat o)), .val (.int (Int32.ofNat len)), .val .null, .val (.ref s.heap.size)] [.int 0, .ref a])) := g11
  obtain ⟨T13, X13, p13, bl13, sl13, st13⟩ := X11.finit hexec hown (wk W (.fieldLink "java/lang/String" 15 "java/lang/String" "coder" "B")) (Or.inr ⟨_, (wk W (.laysFinal "java/lang/String" "java/lang/String" "coder" "B"))⟩) (Or.inl ⟨rfl, hnm⟩) f2 (Or.inl rfl) hB11 (t := .byte) (by decide +kernel) rfl (g := (mkF m 48 #[.val (.ref a), .val (.ref b), .val (.int (Int32.ofNat o)), .val (.int (Int32.ofNat len)), .val .null, .val (.ref s.heap.size)] [.int 0, .ref a])) rfl (rest := []) rfl (hb hbytes d48)
  have c14 : Steps p.tables e below (s₁.setTop (entryFrame m #[.ref a, .ref b, .int (Int32.ofNat o), .int (Int32.ofNat len), .null] 6)) (T13.setTop (mkF m 54 #[.val (.ref a), .val (.ref b), .val (.int (Int32.ofNat o)), .val (.int (Int32.ofNat len)), .val .null, .val (.ref s.heap.size)] [.ref s.heap.size, .ref a])) := (c12.trans (st13 _ (Steps.refl _))).trans (by
    refine XS.aloadN X13.here hexec rfl (hb hbytes d51) rfl rfl ?_
    refine XS.aload X13.here hexec rfl (hb hbytes d52) rfl rfl ?_
    exact Steps.refl _)
  obtain ⟨T15, X15, p15, bl15, sl15, st15⟩ := X13.finit hexec hown (wk W (.fieldLink "java/lang/String" 9 "java/lang/String" "value" "[B")) (Or.inr ⟨_, (wk W (.laysFinal "java/lang/String" "java/lang/String" "value" "[B"))⟩) (Or.inl ⟨rfl, hnm⟩) f1 (Or.inl rfl) bl13 (t := (.array .byte)) (by decide +kernel) rfl (g := (mkF m 54 #[.val (.ref a), .val (.ref b), .val (.int (Int32.ofNat o)), .val (.int (Int32.ofNat len)), .val .null, .val (.ref s.heap.size)] [.ref s.heap.size, .ref a])) rfl (rest := []) rfl (hb hbytes d54)
  have c16 : Steps p.tables e below (s₁.setTop (entryFrame m #[.ref a, .ref b, .int (Int32.ofNat o), .int (Int32.ofNat len), .null] 6)) (T15.setTop (mkF m 57 #[.val (.ref a), .val (.ref b), .val (.int (Int32.ofNat o)), .val (.int (Int32.ofNat len)), .val .null, .val (.ref s.heap.size)] [])) := c14.trans (st15 _ (Steps.refl _))
  have ap := apart (Or.inr ⟨_, (wk W (.laysFinal "java/lang/String" "java/lang/String" "value" "[B"))⟩) (Or.inr ⟨_, (wk W (.laysFinal "java/lang/String" "java/lang/String" "coder" "B"))⟩) f1 f2 (t₁ := .array .byte) (t₂ := .byte) (by decide +kernel) (by decide +kernel) (by decide)
  have al := X8.warmed.alike.symm.trans X15.warmed.alike
  have n7 : T11.heap[s.heap.size]? = some N := by rw [q11]; exact n1.1
  exact ⟨T15, none, _, _, _, X15, by simp, rfl, by omega, (fun _ => rfl), ⟨rfl, _, N, bl15, ((Same.refl D _).set _ (by simp)).set _ (by simp), sl15, (Cell.slots_setSlot_ne _ ap).trans sl13, n1.keep al (p15.other hne (p13.other hne n7)), n2, by rw [al.findClass]; exact n3, n4, n5, fun y c h1 h2 => p15.other h1 (p13.other h1 (by rw [q11]; exact n6 y c h2)), by rw [p15.2.2, p13.2.2, q11]; exact z8⟩, fun fs hl => c16.trans (X15.returnOut hexec hret (hb hbytes d57) hl)⟩
end New4
namespace New1
def yN : MethodName := ⟨"java/lang/String", "<init>", "([C)V"⟩
abbrev yB : ByteArray := jdk_42_method_3_code
theorem d0 : decode yB 0 = .ok (.aload_n 0, 1) := by decide +kernel
theorem d1 : decode yB 1 = .ok (.aload_n 1, 1) := by decide +kernel
theorem d2 : decode yB 2 = .ok (.iconst 0, 1) := by decide +kernel
theorem d3 : decode yB 3 = .ok (.aload_n 1, 1) := by decide +kernel
theorem d4 : decode yB 4 = .ok (.arraylength, 1) := by decide +kernel
theorem d5 : decode yB 5 = .ok (.aconst_null, 1) := by decide +kernel
theorem d6 : decode yB 6 = .ok (.invokespecial 27, 3) := by decide +kernel
theorem d9 : decode yB 9 = .ok (.return_, 1) := by decide +kernel
def site : List Cond := [New4.tab] ++ initW "java/lang/String" 27 New4.yN
def tab : Cond := tabOf yN yB 2 none site
def P (a : Addr) (D : Cell) (fV fC : Field) (b : Addr) (A : Cell) (z : Int32) (args : Array Value) (s : State) : Prop := args = #[.ref a, .ref b] ∧ Blank "java/lang/String" a D s ∧ Found "java/lang/String" "value" "[B" fV s ∧ Found "java/lang/String" "coder" "B" fC s ∧ Ch b A s ∧ StaticIs s "java/lang/String" "COMPACT_STRINGS" "Z" (.int z) ∧ ¬ z = 0 ∧ 0 < A.slots.size ∧ A.slots.size ≤ 536870912 ∧ ∀ i, i < A.slots.size → ¬ 255 < cv A i
def E (a : Addr) (D : Cell) (fV fC : Field) (A : Cell) (r : Option Value) (s u : State) : Prop := Got a D fV fC A 0 A.slots.size r s u
/-- new String(chars), not empty, no char above 255: a Latin-1 String of their low bytes -/
theorem law (l : Launch) (a : Addr) (D : Cell) (fV fC : Field) (b : Addr) (A : Cell) (z : Int32) : Law l yN 2 1 3 52 yB 2 none site (P a D fV fC b A z) (E a D fV fC A) [⟨a, fC.slot⟩, ⟨a, fV.slot⟩] 1 A.slots.size := by
  refine Law.of_walk (plainFor_of_name (by decide +kernel)) (by decide +kernel) (by decide +kernel) (by decide) (fun _ _ h => by rw [h.1]; rfl) (fun _ U U' hal hh h => ⟨h.1, h.2.1.mv hal hh, h.2.2.1.al hal, h.2.2.2.1.al hal, h.2.2.2.2.1.mv hal hh, h.2.2.2.2.2.1.there hal hh, h.2.2.2.2.2.2⟩) (fun r U U' V V' h1 hal h2 h => Got.mv r U U' V V' h1 hal h2 h) ?_
  intro p e s m args below meth c s₁ X0 hexec hbytes hml hret hlk hnm hown hh0 W hP
  obtain ⟨rfl, hB, f1, f2, hA, s1, hz, l0, l2, hp⟩ := hP
  have c1 : Steps p.tables e below (s₁.setTop (entryFrame m #[.ref a, .ref b] 2)) (s₁.setTop (mkF m 0 #[.val (.ref a), .val (.ref b)] [])) := entry rfl
  have c2 : Steps p.tables e below (s₁.setTop (entryFrame m #[.ref a, .ref b] 2)) (s₁.setTop (mkF m 6 #[.val (.ref a), .val (.ref b)] [.null, .int (Int32.ofNat A.slots.size), .int 0, .ref b, .ref a])) := c1.trans (by
    refine XS.aloadN X0.here hexec rfl (hb hbytes d0) rfl rfl ?_
    refine XS.aloadN X0.here hexec rfl (hb hbytes d1) rfl rfl ?_
    refine iconstV X0.here hexec rfl 0 (hb hbytes d2) (by decide) ?_
    refine XS.aloadN X0.here hexec rfl (hb hbytes d3) rfl rfl ?_
    refine X0.alen hexec (hA.1.mv X0.warmed.alike hh0) rfl rfl (hb hbytes d4) ?_
    refine XS.aconstNull X0.here hexec rfl (hb hbytes d5) ?_
    exact Steps.refl _)
  obtain ⟨v3, T3, X3, E3, g3⟩ := X0.callN hexec (New4.law l a D fV fC b A z 0 A.slots.size) rfl hown (wks W (initW "java/lang/String" 27 New4.yN)) (W New4.tab (by simp only [site, List.mem_cons, List.mem_append, true_or, or_true])) (W := 0) (Nat.le_of_ble_eq_true rfl) (Nat.le_of_ble_eq_true rfl) (Nat.le_refl _) (by show 0 + A.slots.size ≤ A.slots.size; omega) (g := (mkF m 6 #[.val (.ref a), .val (.ref b)] [.null, .int (Int32.ofNat A.slots.size), .int (Int32.ofNat 0), .ref b, .ref a])) rfl (by rw [hml]; rfl) c2 (argsL := [.ref b, .int (Int32.ofNat 0), .int (Int32.ofNat A.slots.size), .null]) (rest := []) rfl rfl (by show 2 * 0 + 0 ≤ _; decide) (hb hbytes d6) (⟨rfl, hB.mv X0.warmed.alike hh0, f1.al X0.warmed.alike, f2.al X0.warmed.alike, hA.mv X0.warmed.alike hh0, s1.there X0.warmed.alike hh0, hz, l0, by omega, l2, fun i hi => by rw [Nat.zero_add]; exact hp i hi⟩)
  have e0 := Got.mv _ s₁ s _ _ hh0.symm (Vm.Alike.refl _) rfl E3
  obtain rfl := e0.1
  have c4 : Steps p.tables e below (s₁.setTop (entryFrame m #[.ref a, .ref b] 2)) (T3.setTop (mkF m 9 #[.val (.ref a), .val (.ref b)] [])) := g3
  exact ⟨T3, none, _, _, _, X3, by simp, rfl, by omega, (fun _ => rfl), e0, fun fs hl => c4.trans (X3.returnOut hexec hret (hb hbytes d9) hl)⟩
theorem pays {l : Launch} {R : Room} {p : Program} {e : Env} {below : List Frame} {s : State} {sargs : Array Value} {len W : Nat} (a : Addr) (D : Cell) (fV fC : Field) (b : Addr) (A : Cell) (z : Int32) (htab : tab.before sargs s = true) (hfr : 4 ≤ R.frames) (hlo : W + 65 ≤ R.locals) :
    Back l R p e below s sargs yN len W (fun A₁ a₁ => A₁.cells + 1 ≤ R.cells ∧ A₁.slots + A.slots.size ≤ R.slots ∧ P a D fV fC b A z a₁ A₁.U) (fun A₁ _ v₁ B₁ => E a D fV fC A v₁ A₁.U B₁.U ∧ B₁.locs = A₁.locs ++ [⟨a, fC.slot⟩, ⟨a, fV.slot⟩] ∧ B₁.cells = A₁.cells + 1 ∧ B₁.slots = A₁.slots + A.slots.size) :=
  (law l a D fV fC b A z).pays htab hfr (by omega)
end New1
/-- the byte, read back as charAt reads it, is the char -/
theorem lo8_mask {x : Int32} (h0 : ¬ x < 0) (h1 : ¬ 255 < x) : lo8 x &&& 255 = x := by
  have t : ∀ k : Fin 256, lo8 (Int32.ofNat k.val) &&& 255 = Int32.ofNat k.val := by decide +kernel
  rw [Int32.lt_iff_toInt_lt] at h0 h1
  have e0 : (0 : Int32).toInt = 0 := rfl
  have e1 : (255 : Int32).toInt = 255 := rfl
  obtain ⟨k, hk⟩ : ∃ k : Nat, x.toInt = k := ⟨x.toInt.toNat, by omega⟩
  have hx : x = Int32.ofNat k := Int32.toInt_inj.mp (by rw [hk, Int32.toInt_ofNat_small (by omega)])
  rw [hx]
  exact t ⟨k, by omega⟩
end StrChars
namespace StrChars.Road
open Jvm Sem ClassFile Op Lib Jvm.Stand Jvm.Free Jvm.Free.XT
open Jvm.Lib.Cold (StaticIs)
abbrev ST : String := "java/lang/String"
/-- every table word that New1's law asks, flat -/
abbrev words : List Jvm.Cond := [.code New1.yN New1.yB 2 none, .initialized ST, .methodLink ST 27 New4.yN, .instanceMethod New4.yN,
  .code New4.yN New4.yB 6 none, .fieldLink ST 38 ST "COMPACT_STRINGS" "Z", .laysFinal ST ST "value" "[B", .fieldLink ST 9 ST "value" "[B", .laysFinal ST ST "coder" "B", .fieldLink ST 15 ST "coder" "B",
  .methodLink ST 1 Lib.objectInit, .instanceMethod Lib.objectInit, .code Lib.objectInit ⟨#[0xb1]⟩ 1 none, .methodLink ST 177 Cmp3.yN, .static Cmp3.yN, .methodLink ST 47 CodL.yN, .static CodL.yN,
  .code Cmp3.yN Cmp3.yB 6 (some (.array .byte)), .initialized U16, .arrayClass .byte, .methodLink U16 115 Cmp5.yN, .static Cmp5.yN, .code Cmp5.yN Cmp5.yB 7 (some .int), .code CodL.yN CodL.yB 2 (some .byte)]
theorem tab_of {a : Array Value} {s : State} (h : ∀ w ∈ words, w.before a s = true) : New1.tab.before a s = true := by
  have h5 : Cmp5.tab.before a s = true := unparts (wk h (.code Cmp5.yN Cmp5.yB 7 (some .int))) (wks h (.initialized Cmp5.yN.cls :: Cmp5.site))
  have hc : CodL.tab.before a s = true := unparts (wk h (.code CodL.yN CodL.yB 2 (some .byte))) (wks h (.initialized CodL.yN.cls :: CodL.site))
  have q5 : ∀ w ∈ Cmp5.tab :: words, w.before a s = true := fun w hw => (List.mem_cons.mp hw).elim (fun e => e ▸ h5) (h w)
  have h3 : Cmp3.tab.before a s = true := unparts (wk q5 (.code Cmp3.yN Cmp3.yB 6 (some (.array .byte)))) (wks q5 (.initialized Cmp3.yN.cls :: Cmp3.site))
  have q3 : ∀ w ∈ Cmp3.tab :: CodL.tab :: words, w.before a s = true := fun w hw => (List.mem_cons.mp hw).elim (fun e => e ▸ h3) fun hw => (List.mem_cons.mp hw).elim (fun e => e ▸ hc) (h w)
  have h4 : New4.tab.before a s = true := unparts (wk q3 (.code New4.yN New4.yB 6 none)) (wks q3 (.initialized New4.yN.cls :: New4.site))
  have q4 : ∀ w ∈ New4.tab :: words, w.before a s = true := fun w hw => (List.mem_cons.mp hw).elim (fun e => e ▸ h4) (h w)
  exact unparts (wk q4 (.code New1.yN New1.yB 2 none)) (wks q4 (.initialized New1.yN.cls :: New1.site))
/-- the words ride from the start Z to the walk's own state -/
theorem moved {Z s : State} {a0 args : Array Value} (hZ : Z.Warmed39 s.vm) (hw : ∀ d ∈ words, d.before a0 Z = true) : ∀ d ∈ words, d.before args s = true := fun d hd => by
  have q := hw d hd
  have t : ∀ d ∈ words, d = .arrayClass .byte ∨ (d.onTables && d.keepsFace) = true := by decide +kernel
  rcases t d hd with rfl | t
  · exact RoadKit.mvA hZ q
  · exact RoadKit.mv hZ q t
/-- WHAT COMES BACK, over the tables of the start Z: h the heap at the call, h' behind it -/
def Q (Z : State) (x : Addr) (A : Cell) (h : Heap) (v : Option Value) (h' : Heap) (L : List Loc) : Prop := v = none ∧ (∀ y ∈ L, y.base = x) ∧ RoadKit.Keep h h' [x] ∧ h'.size = h.size + 1 ∧ RoadKit.Exa Z h' x ST ∧ RoadKit.Fld Z h' x ST "value" "[B" (.ref h.size) ∧ RoadKit.Fld Z h' x ST "coder" "B" (.int 0) ∧
  (∃ V : Cell, RoadKit.Arr Z h' h.size V .byte ∧ V.vm = .none ∧ Z.vm.findClass "[B" = some V.cls ∧ V.slots.size = A.slots.size ∧ ∀ j, j < A.slots.size → V.slots[j]? = some (.int (lo8 (cv A j)))) ∧
  ∀ (O n d : String) (w : Value), RoadKit.Fld Z h x O n d w → RoadKit.slotOf Z O n d ≠ RoadKit.slotOf Z ST "value" "[B" → RoadKit.slotOf Z O n d ≠ RoadKit.slotOf Z ST "coder" "B" → RoadKit.Fld Z h' x O n d w
/-- **new String(chars) AT A CALL, IN THE ROAD'S FORM**: for specialBack behind newO: x the fresh String, b the char[] with the cell A -/
theorem back {p : Program} {l : Launch} {e : Env} {R : Room} {s : State} {args : Array Value} {below : List Frame} {len W : Nat} {Z : State} {a0 : Array Value} {h : Heap} (hZ : Z.Warmed39 s.vm) (hw : ∀ d ∈ words, d.before a0 Z = true) {kI : Nat} (wi : (Jvm.Cond.instantiable ST kI).before a0 Z = true)
    {x b : Addr} {A : Cell} {z : Int32} {v0 c0 : Value} (E : RoadKit.Exa Z h x ST) (V : RoadKit.Fld Z h x ST "value" "[B" v0) (C : RoadKit.Fld Z h x ST "coder" "B" c0) (K : RoadKit.Arr Z h b A .char) (hty : Typed .char A) (S : RoadKit.Sta Z h ST "COMPACT_STRINGS" "Z" (.int z)) (hz : ¬ z = 0)
    (l0 : 0 < A.slots.size) (l2 : A.slots.size ≤ 536870912) (hp : ∀ i, i < A.slots.size → ¬ 255 < cv A i) (hfr : 4 ≤ R.frames) (hlo : W + 65 ≤ R.locals) :
    Back l R p e below s args New1.yN len W (fun P a => a = #[.ref x, .ref b] ∧ P.U.heap = h ∧ P.cells + 1 ≤ R.cells ∧ P.slots + A.slots.size ≤ R.slots)
      (fun P _ v B => ∃ L, Q Z x A h v B.U.heap L ∧ B.locs = P.locs ++ L ∧ B.cells = P.cells + 1 ∧ B.slots = P.slots + A.slots.size) := by
  intro m meth c P g ig mk a X hg hsize hdg hW hn hp'
  obtain ⟨rfl, rfl, r1, r2⟩ := hp'
  have al : Z.vm.Alike P.U.vm := hZ.alike.trans X.warmed.alike
  obtain ⟨D, cfV, kV, iV, fV, hD, gV, stV, knV, obV, asV, slV⟩ := id V
  obtain ⟨D', cfC, kC, iC, fC, hD', gC, stC, -, -, asC, slC⟩ := id C
  cases hD.symm.trans hD'
  obtain ⟨D2, kD, e1, e2, e3, e4, e5⟩ := id E
  cases hD.symm.trans e1
  obtain ⟨c2, k2, i1, i2, i3, -⟩ := Cond.instantiable_spec wi
  cases e2.symm.trans i1
  cases e3.symm.trans i2
  obtain ⟨kU, u1, u2⟩ := al.2.2 _ _ e3
  have hB : Blank ST x D P.U := ⟨hD, ⟨knV, fun q hq => by rw [hq] at obV; cases obV⟩, by rw [al.findClass]; exact e2, kU, u1, by rw [u2]; exact i3, by rw [u2]; exact e5 i3⟩
  have F1 : Found ST "value" "[B" fV P.U := ⟨SBG.found_only al ⟨cfV, kV, iV, gV⟩, stV⟩
  have F2 : Found ST "coder" "B" fC P.U := ⟨SBG.found_only al ⟨cfC, kC, iC, gC⟩, stC⟩
  have hA : Ch b A P.U := ⟨⟨K.1, State.isArrayOf_alike al K.2.1, K.2.2, by omega⟩, hty⟩
  have hS : StaticIs P.U ST "COMPACT_STRINGS" "Z" (.int z) := by
    obtain ⟨cfS, iS, kS, fS, st, cS, t1, t2, t3, t4, t5, t6, t7⟩ := S
    exact StaticIs.there (s := { Z with heap := P.U.heap }) ⟨cfS, iS, kS, fS, st, cS, t1, t2, t3, t4, t5, (fun q => by rw [q] at t6; cases t6), t7⟩ al rfl
  obtain ⟨v, B, X', ⟨⟨hv, E', V', q1, q2, q3, q4, q5, q6, q7, q8, q9, q10, q11⟩, hl, hc, hs⟩, st⟩ := New1.pays x D fV fC b A z (tab_of (moved hZ hw)) hfr hlo m meth c P g ig mk _ X hg hsize hdg hW hn ⟨r1, r2, rfl, hB, F1, F2, hA, hS, hz, l0, l2, hp⟩
  have al' : Z.vm.Alike B.U.vm := hZ.alike.trans X'.warmed.alike
  have hsz : E'.slots.size = D.slots.size := by
    obtain ⟨-, -, -, kB, w1, w2, w3⟩ := q1
    obtain ⟨kB', y1, y2⟩ := al'.2.2 _ _ e3
    rw [q2.2.1] at w1
    cases w1.symm.trans y1
    rw [w3, e5 i3, y2]
  refine ⟨v, B, X', ⟨_, ⟨hv, ?_, ⟨by omega, fun y cy hy hn' => q10 y cy (by simpa using hn') hy, fun y cy hy => ?_⟩, q11, ⟨E', _, q1.1, by rw [q2.2.1]; exact e2, by rw [q2.2.1]; exact e3, by rw [q2.1]; exact obV, fun _ => by rw [hsz]; exact e5 i3⟩,
    ⟨E', cfV, kV, iV, fV, q1.1, gV, stV, by rw [q2.1]; exact knV, by rw [q2.1]; exact obV, by rw [q2.2.1]; exact asV, q3⟩, ⟨E', cfC, kC, iC, fC, q1.1, gC, stC, by rw [q2.1]; exact knV, by rw [q2.1]; exact obV, by rw [q2.2.1]; exact asC, q4⟩,
    ⟨V', ⟨q5.1, State.isArrayOf_alike al'.symm q5.2.1, q5.2.2.1⟩, q6, by rw [← al'.findClass]; exact q7, q8, fun j hj => by have := q9 j hj; rwa [Nat.zero_add] at this⟩, fun O n d w F n1 n2 => ?_⟩, hl, hc, hs⟩, st⟩
  · intro y hy
    simp only [List.mem_cons, List.not_mem_nil, or_false] at hy
    rcases hy with rfl | rfl <;> rfl
  · by_cases q : y = x
    · subst q
      cases hD.symm.trans hy
      exact ⟨E', q1.1, q2.2.1, q2.1, hsz⟩
    · exact ⟨cy, q10 y cy q hy, rfl, rfl, rfl⟩
  · obtain ⟨D3, cf, k, i, f, g1, g2, g3, g4, g5, g6, g7⟩ := F
    cases hD.symm.trans g1
    simp only [RoadKit.slotOf, g2, gV, gC, Option.map_some, Option.getD_some] at n1 n2
    exact ⟨E', cf, k, i, f, q1.1, g2, g3, by rw [q2.1]; exact g4, by rw [q2.1]; exact g5, by rw [q2.2.1]; exact g6, by rw [q2.2.2 f.slot (by simp [n1, n2])]; exact g7⟩
end StrChars.Road
namespace StrChars.Road
open Jvm Sem ClassFile Op Lib Jvm.Stand Jvm.Free Jvm.Free.XT
/-- WHAT COMES BACK, the byte[] as a list of values -/
def QA (Z : State) (x : Addr) (zn : Int32) (cs : List Int32) (h : Heap) (v : Option Value) (h' : Heap) (L : List Loc) : Prop := v = none ∧ (∀ y ∈ L, y.base = x) ∧ RoadKit.Keep h h' [x] ∧ h'.size = h.size + 1 ∧ RoadKit.Exa Z h' x ST ∧ RoadKit.Fld Z h' x ST "value" "[B" (.ref h.size) ∧ RoadKit.Fld Z h' x ST "coder" "B" (.int 0) ∧
  (∃ kb, Z.vm.findClass "[B" = some kb ∧ RoadKit.Arv Z h' h.size kb .byte zn (cs.map fun c => .int (lo8 c)) (.int 0)) ∧
  ∀ (O n d : String) (w : Value), RoadKit.Fld Z h x O n d w → RoadKit.slotOf Z O n d ≠ RoadKit.slotOf Z ST "value" "[B" → RoadKit.slotOf Z O n d ≠ RoadKit.slotOf Z ST "coder" "B" → RoadKit.Fld Z h' x O n d w
/-- **new String(chars) AT A CALL, THE ARRAYS AS LISTS**: the char[] at b holds cs, not empty, no char above 255 -/
theorem backArv {p : Program} {l : Launch} {e : Env} {R : Room} {s : State} {args : Array Value} {below : List Frame} {len W : Nat} {Z : State} {a0 : Array Value} {h : Heap} (hZ : Z.Warmed39 s.vm) (hw : ∀ d ∈ words, d.before a0 Z = true) {kI : Nat} (wi : (Jvm.Cond.instantiable ST kI).before a0 Z = true)
    {x b : Addr} {k : ClassId} {zn z : Int32} {cs : List Int32} {dv v0 c0 : Value} (E : RoadKit.Exa Z h x ST) (V : RoadKit.Fld Z h x ST "value" "[B" v0) (C : RoadKit.Fld Z h x ST "coder" "B" c0) (K : RoadKit.Arv Z h b k .char zn (cs.map Value.int) dv) (S : RoadKit.Sta Z h ST "COMPACT_STRINGS" "Z" (.int z)) (hz : ¬ z = 0)
    (hlen : zn.toNatClampNeg = cs.length) (h0 : 0 < cs.length) (hbig : cs.length ≤ 536870912) (hall : ∀ c ∈ cs, ¬ 255 < c) (hfr : 4 ≤ R.frames) (hlo : W + 65 ≤ R.locals) :
    Back l R p e below s args New1.yN len W (fun P a => a = #[.ref x, .ref b] ∧ P.U.heap = h ∧ P.cells + 1 ≤ R.cells ∧ P.slots + cs.length ≤ R.slots)
      (fun P _ v B => ∃ L, QA Z x zn cs h v B.U.heap L ∧ B.locs = P.locs ++ L ∧ B.cells = P.cells + 1 ∧ B.slots = P.slots + cs.length) := by
  obtain ⟨A, K1, K2, K3, K4, K5, K6⟩ := K
  have e : A.slots.size = cs.length := K3.trans hlen
  have hat : ∀ (i : Nat) (hi : i < cs.length), A.slots[i]? = some (.int cs[i]) := fun i hi => by rw [K5 i (by omega)]; simp [List.getD_eq_getElem?_getD, hi]
  have hcv : ∀ (i : Nat) (hi : i < cs.length), cv A i = cs[i] := fun i hi => by unfold cv; rw [hat i hi]
  have hty : Typed .char A := fun i v hv => by
    have hi : i < A.slots.size := (Array.getElem?_eq_some_iff.mp hv).1
    have q := K5 i hi
    rw [hv] at q
    rw [Option.some.inj q]
    exact K6 i hi
  refine Back.mono (back hZ hw wi E V C K1 hty S hz (by omega) (by omega) (fun i hi => by rw [hcv i (by omega)]; exact hall _ (List.getElem_mem _)) hfr hlo) (fun P a hp => ⟨hp.1, hp.2.1, hp.2.2.1, by rw [e]; exact hp.2.2.2⟩) (fun P a v B hp hq => ?_)
  obtain ⟨L, ⟨q1, q2, q3, q4, q5, q6, q7, ⟨V', v1, v2, v3, v4, v5⟩, q9⟩, hl, hc, hs⟩ := hq
  refine ⟨L, ⟨q1, q2, q3, q4, q5, q6, q7, ⟨V'.cls, v3, V', v1, rfl, by rw [v4, e, hlen], K4, fun i hi => ?_, fun i hi => ?_⟩, q9⟩, hl, hc, by rw [hs, e]⟩
  · have hi' : i < cs.length := by omega
    rw [v5 i (by omega), hcv i hi']; simp [List.getD_eq_getElem?_getD, hi']
  · have hi' : i < cs.length := by omega
    simp only [List.getD_eq_getElem?_getD, List.getElem?_map, List.getElem?_eq_getElem hi', Option.map_some, Option.getD_some]
    exact fits_lo8 _
end StrChars.Road
namespace StrChars.Road
open Jvm Sem ClassFile Op Lib Jvm.Stand Jvm.Free Jvm.Free.XT
/-- WHAT COMES BACK, in the writer's own shape -/
def QV (Z : State) (x : Addr) (N : Int32) (bs : List Int32) (h : Heap) (n0 : Nat) (v : Option Value) (h' : Heap) (L : List Loc) : Prop := v = none ∧ RoadKit.Fr n0 L ∧ RoadKit.Keep h h' [x] ∧ RoadKit.Exa Z h' x ST ∧ RoadKit.Fld Z h' x ST "coder" "B" (.int 0) ∧
  ∃ (t : Addr) (kb : ClassId), n0 ≤ t ∧ h.size ≤ t ∧ ¬ t = x ∧ RoadKit.Fld Z h' x ST "value" "[B" (.ref t) ∧ RoadKit.Arv Z h' t kb .byte N (bs.map Value.int) (.int 0)
/-- **new String(chars) AT A CALL, FOR THE WRITER**: a char[] of n known ints, each 0 to 255 -/
theorem backV {p : Program} {l : Launch} {e : Env} {R : Room} {s : State} {args : Array Value} {below : List Frame} {len W : Nat} {Z : State} {a0 : Array Value} {h : Heap} (hZ : Z.Warmed39 s.vm) (hw : ∀ d ∈ words, d.before a0 Z = true) {kI : Nat} (wi : (Jvm.Cond.instantiable ST kI).before a0 Z = true)
    {x b : Addr} {kC : ClassId} {cs bs : List Int32} {d v0 c0 : Value} {z N : Int32} {n n0 : Nat} (hx0 : n0 ≤ x) (hh0 : n0 ≤ h.size) (E : RoadKit.Exa Z h x ST) (V : RoadKit.Fld Z h x ST "value" "[B" v0) (C : RoadKit.Fld Z h x ST "coder" "B" c0) (K : RoadKit.Arv Z h b kC .char N (cs.map Value.int) d) (S : RoadKit.Sta Z h ST "COMPACT_STRINGS" "Z" (.int z)) (hz : ¬ z = 0)
    (hn : cs.length = n) (hN : N = Int32.ofNat n) (l0 : 0 < n) (l2 : n ≤ 4000) (hp : ∀ c ∈ cs, ¬ c < 0 ∧ ¬ (255 : Int32) < c) (hb : bs = cs.map (fun c => c.toInt8.toInt32)) (hfr : 4 ≤ R.frames) (hlo : W + 65 ≤ R.locals) :
    Back l R p e below s args (⟨"java/lang/String", "<init>", "([C)V"⟩ : MethodName) len W (fun P a => a = #[.ref x, .ref b] ∧ P.U.heap = h ∧ P.cells + 1 ≤ R.cells ∧ P.slots + n ≤ R.slots)
      (fun P _ v B => ∃ L, QV Z x N bs h n0 v B.U.heap L ∧ B.locs = P.locs ++ L ∧ B.cells = P.cells + 1 ∧ B.slots = P.slots + n) := by
  subst hn hN hb
  refine Back.mono (backArv hZ hw wi E V C K S hz (n32 (by omega)) l0 (by omega) (fun c hc => (hp c hc).2) hfr hlo) (fun P a hp => hp) (fun P a v B hp hq => ?_)
  obtain ⟨L, ⟨q1, q2, q3, q4, q5, q6, q7, ⟨kb, v1, v2⟩, q9⟩, hl, hc, hs⟩ := hq
  exact ⟨L, ⟨q1, fun y hy => by rw [q2 y hy]; exact hx0, q3, q5, q7, h.size, kb, hh0, Nat.le_refl _, Nat.ne_of_gt E.lt, q6, by rw [List.map_map]; exact v2⟩, hl, hc, hs⟩
end StrChars.Road
namespace StrChars
open Jvm Sem ClassFile Op Lib Jvm.Stand Jvm.Free.XT Jvm.Free.ALB Jvm.Free.JM Jvm.Free
open Jvm.Lib.Cold (StaticIs)
def hi8 (x : Int32) : Int32 := lo8 (x >>> ((8 : Int32) &&& 31))
/-- what StringUTF16.getChar makes of two bytes -/
def pairCh (u v : Int32) : Int32 := (((u &&& 255) <<< ((0 : Int32) &&& 31)) ||| ((v &&& 255) <<< ((8 : Int32) &&& 31))).toUInt32.toUInt16.toUInt32.toInt32
theorem lo8_and (x : Int32) : (lo8 x &&& 255).toBitVec.toNat = x.toBitVec.toNat % 256 := by
  have h : (lo8 x).toBitVec = (x.toBitVec.signExtend 8).signExtend 32 := by rw [lo8, Int8.toBitVec_toInt32, Int32.toBitVec_toInt8]
  rw [Int32.toBitVec_and, BitVec.toNat_and, h]
  have e : ((x.toBitVec.signExtend 8).signExtend 32).toNat % 256 = x.toBitVec.toNat % 256 := by
    rw [BitVec.toNat_signExtend]
    have hlt := x.toBitVec.isLt
    simp only [BitVec.toNat_setWidth, BitVec.toNat_signExtend]
    split <;> split <;> omega
  rw [← e]
  exact Nat.and_two_pow_sub_one_eq_mod _ 8
theorem pair_says {c : Int32} (h0 : ¬ c < 0) (h1 : ¬ 65535 < c) : pairCh (lo8 c) (hi8 c) = c := by
  rw [Int32.lt_iff_toInt_lt] at h0 h1
  have e0 : (0 : Int32).toInt = 0 := rfl
  have e1 : (65535 : Int32).toInt = 65535 := rfl
  have hc : c.toInt = c.toBitVec.toNat := by
    have := c.toBitVec.isLt
    have e : c.toInt = c.toBitVec.toInt := rfl
    rw [e] at h0 h1
    rw [e]
    rw [BitVec.toInt_eq_toNat_cond] at h0 h1 ⊢
    split at h0 <;> split <;> omega
  have hn : c.toBitVec.toNat < 65536 := by omega
  have a1 := lo8_and c
  have a2 : (hi8 c &&& 255).toBitVec.toNat = c.toBitVec.toNat / 256 := by
    rw [hi8, lo8_and]
    have e : ((8 : Int32) &&& 31) = 8 := by decide
    rw [e, Int32.toBitVec_shiftRight]
    have e2 : ((8 : Int32).toBitVec.smod 32) = 8#32 := by decide
    rw [e2, BitVec.sshiftRight_eq', BitVec.toNat_sshiftRight_of_msb_false (by rw [BitVec.msb_eq_false_iff_two_mul_lt]; omega)]
    show c.toBitVec.toNat >>> 8 % 256 = _
    rw [Nat.shiftRight_eq_div_pow]
    omega
  unfold pairCh
  apply Int32.toBitVec_inj.mp
  apply BitVec.eq_of_toNat_eq
  have f0 : ((0 : Int32) &&& 31) = 0 := by decide
  have f8 : ((8 : Int32) &&& 31) = 8 := by decide
  rw [f0, f8]
  have g : (((lo8 c &&& 255) <<< (0 : Int32)) ||| ((hi8 c &&& 255) <<< (8 : Int32))).toBitVec.toNat = c.toBitVec.toNat := by
    rw [Int32.toBitVec_or, Int32.toBitVec_shiftLeft, Int32.toBitVec_shiftLeft]
    have s0 : ((0 : Int32).toBitVec.smod 32) = 0#32 := by decide
    have s8 : ((8 : Int32).toBitVec.smod 32) = 8#32 := by decide
    rw [s0, s8, BitVec.toNat_or]
    simp only [BitVec.shiftLeft_eq', BitVec.toNat_shiftLeft, a1, a2]
    show (c.toBitVec.toNat % 256) <<< 0 % 2 ^ 32 ||| (c.toBitVec.toNat / 256) <<< 8 % 2 ^ 32 = _
    rw [Nat.shiftLeft_zero, Nat.mod_eq_of_lt (show c.toBitVec.toNat % 256 < 2 ^ 32 by omega), Nat.mod_eq_of_lt (show (c.toBitVec.toNat / 256) <<< 8 < 2 ^ 32 by rw [Nat.shiftLeft_eq]; omega), Nat.or_comm, ← Nat.shiftLeft_add_eq_or_of_lt (by omega), Nat.shiftLeft_eq]
    omega
  show BitVec.toNat (((((lo8 c &&& 255) <<< (0 : Int32)) ||| ((hi8 c &&& 255) <<< (8 : Int32))).toBitVec.setWidth 16).setWidth 32) = _
  rw [BitVec.toNat_setWidth, BitVec.toNat_setWidth, g]
  omega
end StrChars
namespace StrChars
open Jvm Sem ClassFile Op Lib Jvm.Stand Jvm.Free.XT Jvm.Free.ALB Jvm.Free.JM Jvm.Free
open Jvm.Lib.Cold (StaticIs)
/-- the array's cell V codes the n chars f 0 .. f (n - 1) by the coder cd, as the JDK does: coder 1 just where some char is above 255 -/
def Cod (cd : Int32) (n : Nat) (f : Nat → Int32) (V : Cell) : Prop := (cd = 0 ∧ V.slots.size = n ∧ ∀ j, j < n → V.slots[j]? = some (.int (lo8 (f j))) ∧ ¬ 255 < f j) ∨ (cd = 1 ∧ V.slots.size = 2 * n ∧ (∀ j, j < n → V.slots[2 * j]? = some (.int (lo8 (f j))) ∧ V.slots[2 * j + 1]? = some (.int (hi8 (f j)))) ∧ ∃ j, j < n ∧ 255 < f j)
/-- **x is a String of the n chars f 0 .. f (n - 1)**, Latin-1 or UTF-16; its array at t has the cell V -/
def Txt (x t : Addr) (V : Cell) (cd : Int32) (n : Nat) (f : Nat → Int32) (U : State) : Prop := Exact "java/lang/String" x U ∧ Has x "java/lang/String" "value" "[B" (.ref t) U ∧ Has x "java/lang/String" "coder" "B" (.int cd) U ∧ XT.Arr .byte t V U ∧ Cod cd n f V ∧ ∀ j, j < n → ¬ f j < 0 ∧ ¬ 65535 < f j
theorem Txt.mv {x t : Addr} {V : Cell} {cd : Int32} {n : Nat} {f : Nat → Int32} {U U' : State} (h : Txt x t V cd n f U) (hal : U.vm.Alike U'.vm) (hh : U'.heap = U.heap) : Txt x t V cd n f U' := ⟨h.1.mv hal hh, h.2.1.mv hal hh, h.2.2.1.mv hal hh, h.2.2.2.1.mv hal hh, h.2.2.2.2⟩
end StrChars
namespace StrChars.Road
open Jvm Sem ClassFile Op Lib Jvm.Stand Jvm.Free Jvm.Free.XT
open Jvm.Lib.Cold (StaticIs)
theorem consq {a : Array Value} {s : State} {c : Jvm.Cond} {L : List Jvm.Cond} (h0 : c.before a s = true) (h : ∀ w ∈ L, w.before a s = true) : ∀ w ∈ c :: L, w.before a s = true := fun w hw => (List.mem_cons.mp hw).elim (fun e => e ▸ h0) (h w)
/-- the bytes of the chars cs, low before high -/
def wideBytes : List Int32 → List Value
  | [] => []
  | c :: cs => .int (lo8 c) :: .int (hi8 c) :: wideBytes cs
theorem wide_lo (d : Value) : ∀ (cs : List Int32) (j : Nat), j < cs.length → (wideBytes cs).getD (2 * j) d = .int (lo8 (cs.getD j 0))
  | [], j, h => absurd h (Nat.not_lt_zero j)
  | c :: cs, 0, _ => rfl
  | c :: cs, j + 1, h => by
    have q := wide_lo d cs j (by simpa using h)
    rw [show 2 * (j + 1) = 2 * j + 1 + 1 from by omega]
    simpa [wideBytes] using q
theorem wide_hi (d : Value) : ∀ (cs : List Int32) (j : Nat), j < cs.length → (wideBytes cs).getD (2 * j + 1) d = .int (hi8 (cs.getD j 0))
  | [], j, h => absurd h (Nat.not_lt_zero j)
  | c :: cs, 0, _ => rfl
  | c :: cs, j + 1, h => by
    have q := wide_hi d cs j (by simpa using h)
    rw [show 2 * (j + 1) + 1 = 2 * j + 1 + 1 + 1 from by omega]
    simpa [wideBytes] using q
theorem low_at (d : Value) (cs : List Int32) (j : Nat) (h : j < cs.length) : (cs.map fun c => Value.int (lo8 c)).getD j d = .int (lo8 (cs.getD j 0)) := by
  simp [List.getD_eq_getElem?_getD, h]
/-- an array of N2 bytes vs codes the chars cs by the coder cd -/
def CodA (cs : List Int32) (cd N2 : Int32) (vs : List Value) : Prop := (cd = 0 ∧ N2 = Int32.ofNat cs.length ∧ vs = (cs.map fun c => Value.int (lo8 c)) ∧ ∀ c ∈ cs, ¬ 255 < c) ∨ (cd = 1 ∧ N2 = Int32.ofNat (2 * cs.length) ∧ vs = wideBytes cs ∧ ∃ c ∈ cs, 255 < c)
theorem CodA.cod {cs : List Int32} {cd N2 : Int32} {vs : List Value} {V : Cell} (h : CodA cs cd N2 vs) (hn : 2 * cs.length < 2 ^ 31) (hs : V.slots.size = N2.toNatClampNeg) (hv : RoadKit.Has V vs (.int 0)) : Cod cd cs.length (fun j => cs.getD j 0) V := by
  rcases h with ⟨rfl, rfl, rfl, h⟩ | ⟨rfl, rfl, rfl, c, hc, hw⟩
  · rw [n32 (by omega)] at hs
    exact Or.inl ⟨rfl, hs, fun j hj => ⟨by rw [hv j (by omega), low_at _ _ _ hj], by
      have e : cs.getD j 0 = cs[j] := by simp [List.getD_eq_getElem?_getD, hj]
      show ¬ 255 < cs.getD j 0
      rw [e]; exact h _ (List.getElem_mem _)⟩⟩
  · rw [n32 (by omega)] at hs
    obtain ⟨j, hj, rfl⟩ := List.getElem_of_mem hc
    exact Or.inr ⟨rfl, hs, fun j hj => ⟨by rw [hv _ (by omega), wide_lo _ _ _ hj], by rw [hv _ (by omega), wide_hi _ _ _ hj]⟩, j, hj, by
      have e : cs.getD j 0 = cs[j] := by simp [List.getD_eq_getElem?_getD, hj]
      show 255 < cs.getD j 0
      rw [e]; exact hw⟩
/-- an object of exactly java/lang/String, its two fields found: as the laws ask it -/
theorem strObj {Z U : State} {a0 : Array Value} {kI : Nat} (wi : (Jvm.Cond.instantiable ST kI).before a0 Z = true) (al : Z.vm.Alike U.vm) {x : Addr} {v0 c0 : Value} (E : RoadKit.Exa Z U.heap x ST) (V : RoadKit.Fld Z U.heap x ST "value" "[B" v0) (C : RoadKit.Fld Z U.heap x ST "coder" "B" c0) :
    ∃ (D : Cell) (fV fC : Field), Blank ST x D U ∧ Found ST "value" "[B" fV U ∧ Found ST "coder" "B" fC U ∧ D.slots[fV.slot]? = some v0 ∧ D.slots[fC.slot]? = some c0 ∧ RoadKit.slotOf Z ST "value" "[B" = fV.slot ∧ RoadKit.slotOf Z ST "coder" "B" = fC.slot := by
  obtain ⟨D, cfV, kV, iV, fV, hD, gV, stV, knV, obV, asV, slV⟩ := V
  obtain ⟨D', cfC, kC, iC, fC, hD', gC, stC, -, -, asC, slC⟩ := C
  cases hD.symm.trans hD'
  obtain ⟨D2, kD, e1, e2, e3, e4, e5⟩ := E
  cases hD.symm.trans e1
  obtain ⟨c2, k2, i1, i2, i3, -⟩ := Cond.instantiable_spec wi
  cases e2.symm.trans i1
  cases e3.symm.trans i2
  obtain ⟨kU, u1, u2⟩ := al.2.2 _ _ e3
  exact ⟨D, fV, fC, ⟨hD, ⟨knV, fun q hq => by rw [hq] at obV; cases obV⟩, by rw [al.findClass]; exact e2, kU, u1, by rw [u2]; exact i3, by rw [u2]; exact e5 i3⟩, ⟨SBG.found_only al ⟨cfV, kV, iV, gV⟩, stV⟩, ⟨SBG.found_only al ⟨cfC, kC, iC, gC⟩, stC⟩, slV, slC, by simp [RoadKit.slotOf, gV], by simp [RoadKit.slotOf, gC]⟩
theorem sta_is {Z U : State} (al : Z.vm.Alike U.vm) {C n d : String} {v : Value} (S : RoadKit.Sta Z U.heap C n d v) : StaticIs U C n d v := by
  obtain ⟨cfS, iS, kS, fS, st, cS, t1, t2, t3, t4, t5, t6, t7⟩ := S
  exact StaticIs.there (s := { Z with heap := U.heap }) ⟨cfS, iS, kS, fS, st, cS, t1, t2, t3, t4, t5, (fun q => by rw [q] at t6; cases t6), t7⟩ al rfl
end StrChars.Road
namespace StrChars
open Jvm Sem ClassFile Op Lib Jvm.Stand Jvm.Free.XT Jvm.Free.ALB Jvm.Free.JM Jvm.Free
open Jvm.Lib.Cold (StaticIs)
/-- what place i of a byte[]'s cell holds -/
def yv (A : Cell) (i : Nat) : Int32 := match A.slots[i]? with | some (.int x) => x | _ => 0
theorem yv_get {a : Addr} {A : Cell} {U : State} (h : XT.Arr .byte a A U) (ht : Typed .byte A) {i : Nat} (hi : i < A.slots.size) : A.slots[i]? = some (.int (yv A i)) := by
  have e := Array.getElem?_eq_getElem hi
  have f := ht i _ e
  unfold yv; rw [e]
  generalize A.slots[i] = v at f
  cases v <;> simp [fits] at f ⊢
/-- the two arrays are equal, place for place -/
def EqC (A B : Cell) : Prop := A.slots.size = B.slots.size ∧ ∀ i, i < A.slots.size → yv A i = yv B i
/-- a boolean that says whether p -/
def Says01 (q : Prop) (r : Option Value) (s u : State) : Prop := ∃ v : Int32, r = some (.int v) ∧ u.heap = s.heap ∧ ((v = 1 ∧ q) ∨ (v = 0 ∧ ¬ q))
theorem Says01.mv {q : Prop} : ∀ r (U U' V V' : State), U'.heap = U.heap → V.vm.Alike V'.vm → V'.heap = V.heap → Says01 q r U V → Says01 q r U' V' :=
  fun r U U' V V' h1 _ h2 ⟨v, a, b, c⟩ => ⟨v, a, by rw [h1, h2]; exact b, c⟩
namespace LEq
def yN : MethodName := ⟨"java/lang/StringLatin1", "equals", "([B[B)Z"⟩
abbrev yB : ByteArray := jdk_43_method_13_code
theorem d0 : decode yB 0 = .ok (.aload_n 0, 1) := by decide +kernel
theorem d1 : decode yB 1 = .ok (.arraylength, 1) := by decide +kernel
theorem d2 : decode yB 2 = .ok (.aload_n 1, 1) := by decide +kernel
theorem d3 : decode yB 3 = .ok (.arraylength, 1) := by decide +kernel
theorem d4 : decode yB 4 = .ok (.if_icmp (.ne) 30, 3) := by decide +kernel
theorem d7 : decode yB 7 = .ok (.iconst 0, 1) := by decide +kernel
theorem d8 : decode yB 8 = .ok (.istore_n 2, 1) := by decide +kernel
theorem d9 : decode yB 9 = .ok (.iload_n 2, 1) := by decide +kernel
theorem d10 : decode yB 10 = .ok (.aload_n 0, 1) := by decide +kernel
theorem d11 : decode yB 11 = .ok (.arraylength, 1) := by decide +kernel
theorem d12 : decode yB 12 = .ok (.if_icmp (.ge) 20, 3) := by decide +kernel
theorem d15 : decode yB 15 = .ok (.aload_n 0, 1) := by decide +kernel
theorem d16 : decode yB 16 = .ok (.iload_n 2, 1) := by decide +kernel
theorem d17 : decode yB 17 = .ok (.baload, 1) := by decide +kernel
theorem d18 : decode yB 18 = .ok (.aload_n 1, 1) := by decide +kernel
theorem d19 : decode yB 19 = .ok (.iload_n 2, 1) := by decide +kernel
theorem d20 : decode yB 20 = .ok (.baload, 1) := by decide +kernel
theorem d21 : decode yB 21 = .ok (.if_icmp (.eq) 5, 3) := by decide +kernel
theorem d24 : decode yB 24 = .ok (.iconst 0, 1) := by decide +kernel
theorem d25 : decode yB 25 = .ok (.ireturn, 1) := by decide +kernel
theorem d26 : decode yB 26 = .ok (.iinc 2 1, 3) := by decide +kernel
theorem d29 : decode yB 29 = .ok (.goto (-20), 3) := by decide +kernel
theorem d32 : decode yB 32 = .ok (.iconst 1, 1) := by decide +kernel
theorem d33 : decode yB 33 = .ok (.ireturn, 1) := by decide +kernel
theorem d34 : decode yB 34 = .ok (.iconst 0, 1) := by decide +kernel
theorem d35 : decode yB 35 = .ok (.ireturn, 1) := by decide +kernel
def site : List Cond := []
def tab : Cond := tabOf yN yB 3 (some .boolean) site
def P (a : Addr) (A : Cell) (b : Addr) (B : Cell) (args : Array Value) (s : State) : Prop := args = #[.ref a, .ref b] ∧ XT.Arr .byte a A s ∧ Typed .byte A ∧ XT.Arr .byte b B s ∧ Typed .byte B
/-- whether two byte[] are equal, place for place -/
theorem law (l : Launch) (a : Addr) (A : Cell) (b : Addr) (B : Cell) : Law l yN 2 2 0 0 yB 3 (some .boolean) site (P a A b B) (Says01 (EqC A B)) [] 0 0 := by
  refine Law.of_walk (plainFor_of_name (by decide +kernel)) (by decide +kernel) (by decide +kernel) (by decide) (fun _ _ h => by rw [h.1]; rfl) (fun _ U U' hal hh h => ⟨h.1, h.2.1.mv hal hh, h.2.2.1, h.2.2.2.1.mv hal hh, h.2.2.2.2⟩) (fun r U U' V V' h1 hal h2 h => Says01.mv r U U' V V' h1 hal h2 h) ?_
  intro p e s m args below meth c s₁ X0 hexec hbytes hml hret hlk hnm hown hh0 W hP
  obtain ⟨rfl, hA, tA, hB, tB⟩ := hP
  have a31 := hA.2.2.2
  have b31 := hB.2.2.2
  have hA0 := hA.mv X0.warmed.alike hh0
  have hB0 := hB.mv X0.warmed.alike hh0
  have c1 : Steps p.tables e below (s₁.setTop (entryFrame m #[.ref a, .ref b] 3)) (s₁.setTop (mkF m 0 #[.val (.ref a), .val (.ref b), .unset] [])) := entry rfl
  have c2 : Steps p.tables e below (s₁.setTop (entryFrame m #[.ref a, .ref b] 3)) (s₁.setTop (mkF m 4 #[.val (.ref a), .val (.ref b), .unset] [.int (Int32.ofNat B.slots.size), .int (Int32.ofNat A.slots.size)])) := c1.trans (by
    refine XS.aloadN X0.here hexec rfl (hb hbytes d0) rfl rfl ?_
    refine X0.alen hexec hA0 rfl rfl (hb hbytes d1) ?_
    refine XS.aloadN X0.here hexec rfl (hb hbytes d2) rfl rfl ?_
    refine X0.alen hexec hB0 rfl rfl (hb hbytes d3) ?_
    exact Steps.refl _)
  by_cases hs : A.slots.size = B.slots.size
  · have c3 : Steps p.tables e below (s₁.setTop (entryFrame m #[.ref a, .ref b] 3)) (s₁.setTop (mkF m 9 #[.val (.ref a), .val (.ref b), .val (.int 0)] [])) := c2.trans (by
      refine XS.icmpNo X0.here hexec rfl (hb hbytes d4) rfl (ii_ne_f (by rw [hs])) ?_
      refine iconstV X0.here hexec rfl 0 (hb hbytes d7) (by decide) ?_
      refine XS.istoreN X0.here hexec rfl (hb hbytes d8) rfl rfl ?_
      exact Steps.refl _)
    have loop : ∀ (r i : Nat), i + r = A.slots.size → (∀ j, j < i → yv A j = yv B j) → Steps p.tables e below (s₁.setTop (entryFrame m #[.ref a, .ref b] 3)) (s₁.setTop (mkF m 9 #[.val (.ref a), .val (.ref b), .val (.int (Int32.ofNat i))] [])) → ∃ (pc : Nat) (Ls : Array Slot) (v : Int32), (pc = 25 ∨ pc = 33) ∧ ((v = 1 ∧ EqC A B) ∨ (v = 0 ∧ ¬ EqC A B)) ∧ Steps p.tables e below (s₁.setTop (entryFrame m #[.ref a, .ref b] 3)) (s₁.setTop (mkF m pc Ls [.int v])) := by
      intro r
      induction r with
      | zero =>
        intro i hi he cl
        exact ⟨33, _, 1, Or.inr rfl, Or.inl ⟨rfl, hs, fun j hj => he j (by omega)⟩, cl.trans (by
          refine XS.iloadN X0.here hexec rfl (hb hbytes d9) rfl ?_
          refine XS.aloadN X0.here hexec rfl (hb hbytes d10) rfl rfl ?_
          refine X0.alen hexec hA0 rfl rfl (hb hbytes d11) ?_
          refine XS.icmpYes X0.here hexec rfl (pc0 := 12) rfl (hb hbytes d12) rfl (ii_ge_t (nlt32 (by omega) (by omega))) (by decide) rfl ?_
          refine iconstV X0.here hexec rfl 1 (hb hbytes d32) (by decide) ?_
          exact Steps.refl _)⟩
      | succ r ih =>
        intro i hi he cl
        have c4 : Steps p.tables e below (s₁.setTop (entryFrame m #[.ref a, .ref b] 3)) (s₁.setTop (mkF m 21 #[.val (.ref a), .val (.ref b), .val (.int (Int32.ofNat i))] [.int (yv B i), .int (yv A i)])) := cl.trans (by
          refine XS.iloadN X0.here hexec rfl (hb hbytes d9) rfl ?_
          refine XS.aloadN X0.here hexec rfl (hb hbytes d10) rfl rfl ?_
          refine X0.alen hexec hA0 rfl rfl (hb hbytes d11) ?_
          refine XS.icmpNo X0.here hexec rfl (hb hbytes d12) rfl (ii_ge_f (lt32 (by omega) (by omega))) ?_
          refine XS.aloadN X0.here hexec rfl (hb hbytes d15) rfl rfl ?_
          refine XS.iloadN X0.here hexec rfl (hb hbytes d16) rfl ?_
          refine X0.aget hexec hA0 rfl (yv_get hA tA (i := i) (by omega)) rfl rfl (hb hbytes d17) ?_
          refine XS.aloadN X0.here hexec rfl (hb hbytes d18) rfl rfl ?_
          refine XS.iloadN X0.here hexec rfl (hb hbytes d19) rfl ?_
          refine X0.aget hexec hB0 rfl (yv_get hB tB (i := i) (by omega)) rfl rfl (hb hbytes d20) ?_
          exact Steps.refl _)
        by_cases hv : yv A i = yv B i
        · have c5 : Steps p.tables e below (s₁.setTop (entryFrame m #[.ref a, .ref b] 3)) (s₁.setTop (mkF m 9 #[.val (.ref a), .val (.ref b), .val (.int (Int32.ofNat i + 1))] [])) := c4.trans (by
            refine XS.icmpYes X0.here hexec rfl (pc0 := 21) rfl (hb hbytes d21) rfl (ii_eq_t hv) (by decide) rfl ?_
            refine iincV X0.here hexec rfl 1 (hb hbytes d26) (by decide) rfl rfl ?_
            refine XS.goto X0.here hexec rfl (pc0 := 29) rfl (hb hbytes d29) (by decide) rfl ?_
            exact Steps.refl _)
          rw [succ32] at c5
          exact ih (i + 1) (by omega) (fun j hj => by
            by_cases e : j = i
            · rw [e]; exact hv
            · exact he j (by omega)) c5
        · exact ⟨25, _, 0, Or.inl rfl, Or.inr ⟨rfl, fun q => hv (q.2 i (by omega))⟩, c4.trans (by
            refine XS.icmpNo X0.here hexec rfl (hb hbytes d21) rfl (ii_eq_f hv) ?_
            refine iconstV X0.here hexec rfl 0 (hb hbytes d24) (by decide) ?_
            exact Steps.refl _)⟩
    obtain ⟨pc, Ls, v, hpc, hv, cz⟩ := loop A.slots.size 0 (by omega) (fun j hj => absurd hj (Nat.not_lt_zero j)) c3
    have nv : narrow .boolean (.int v) = .int v := by rcases hv with ⟨rfl, -⟩ | ⟨rfl, -⟩ <;> rfl
    rcases hpc with rfl | rfl
    · exact ⟨s₁, some (.int v), _, _, _, X0, rfl, rfl, rfl, (fun h => by cases h), ⟨v, rfl, hh0, hv⟩, fun fs hl => cz.trans (X0.ireturnOut hexec hret nv (Or.inr (Or.inl rfl)) (hb hbytes d25) hl)⟩
    · exact ⟨s₁, some (.int v), _, _, _, X0, rfl, rfl, rfl, (fun h => by cases h), ⟨v, rfl, hh0, hv⟩, fun fs hl => cz.trans (X0.ireturnOut hexec hret nv (Or.inr (Or.inl rfl)) (hb hbytes d33) hl)⟩
  · have c3 : Steps p.tables e below (s₁.setTop (entryFrame m #[.ref a, .ref b] 3)) (s₁.setTop (mkF m 35 #[.val (.ref a), .val (.ref b), .unset] [.int 0])) := c2.trans (by
      refine XS.icmpYes X0.here hexec rfl (pc0 := 4) rfl (hb hbytes d4) rfl (ii_ne_t (ne32 a31 b31 hs)) (by decide) rfl ?_
      refine iconstV X0.here hexec rfl 0 (hb hbytes d34) (by decide) ?_
      exact Steps.refl _)
    exact ⟨s₁, some (.int 0), _, _, _, X0, rfl, rfl, rfl, (fun h => by cases h), ⟨0, rfl, hh0, Or.inr ⟨rfl, fun q => hs q.1⟩⟩, fun fs hl => c3.trans (X0.ireturnOut hexec hret rfl (Or.inr (Or.inl rfl)) (hb hbytes d35) hl)⟩
end LEq
theorem Cod.ty {cd : Int32} {n : Nat} {f : Nat → Int32} {V : Cell} (h : Cod cd n f V) : Typed .byte V := fun i v hv => by
  have hi : i < V.slots.size := (Array.getElem?_eq_some_iff.mp hv).1
  rcases h with ⟨-, k1, k2⟩ | ⟨-, k1, k2, -⟩
  · rw [(k2 i (by omega)).1] at hv; cases hv; exact fits_lo8 _
  · rcases Nat.mod_two_eq_zero_or_one i with e | e
    · obtain ⟨j, rfl⟩ : ∃ j, i = 2 * j := ⟨i / 2, by omega⟩
      rw [(k2 j (by omega)).1] at hv; cases hv; exact fits_lo8 _
    · obtain ⟨j, rfl⟩ : ∃ j, i = 2 * j + 1 := ⟨i / 2, by omega⟩
      rw [(k2 j (by omega)).2] at hv; cases hv; exact fits_lo8 _
/-- the same text -/
def SameT (n : Nat) (f : Nat → Int32) (k : Nat) (g : Nat → Int32) : Prop := n = k ∧ ∀ j, j < n → f j = g j
theorem lo8_inj {x y : Int32} (h0 : ¬ x < 0) (h1 : ¬ 255 < x) (k0 : ¬ y < 0) (k1 : ¬ 255 < y) (h : lo8 x = lo8 y) : x = y := by
  rw [← lo8_mask h0 h1, ← lo8_mask k0 k1, h]
/-- arrays coded by one coder are equal just where the texts are -/
theorem Cod.eqv {cd : Int32} {n k : Nat} {f g : Nat → Int32} {V V' : Cell} (h : Cod cd n f V) (h' : Cod cd k g V') (hf : ∀ j, j < n → ¬ f j < 0 ∧ ¬ 65535 < f j) (hg : ∀ j, j < k → ¬ g j < 0 ∧ ¬ 65535 < g j) : EqC V V' ↔ SameT n f k g := by
  have yvv : ∀ {W : Cell} {i : Nat} {x : Int32}, W.slots[i]? = some (.int x) → yv W i = x := fun q => by unfold yv; rw [q]
  rcases h with ⟨rfl, k1, k2⟩ | ⟨rfl, k1, k2, -⟩
  · rcases h' with ⟨-, m1, m2⟩ | ⟨e, -⟩
    · constructor
      · rintro ⟨e1, e2⟩
        refine ⟨by omega, fun j hj => ?_⟩
        have q := e2 j (by omega)
        rw [yvv (k2 j hj).1, yvv (m2 j (by omega)).1] at q
        exact lo8_inj (hf j hj).1 (k2 j hj).2 (hg j (by omega)).1 (m2 j (by omega)).2 q
      · rintro ⟨rfl, e2⟩
        refine ⟨by omega, fun j hj => ?_⟩
        rw [yvv (k2 j (by omega)).1, yvv (m2 j (by omega)).1, e2 j (by omega)]
    · exact absurd e (by decide)
  · rcases h' with ⟨e, -⟩ | ⟨-, m1, m2, -⟩
    · exact absurd e (by decide)
    · constructor
      · rintro ⟨e1, e2⟩
        refine ⟨by omega, fun j hj => ?_⟩
        have q1 := e2 (2 * j) (by omega)
        have q2 := e2 (2 * j + 1) (by omega)
        rw [yvv (k2 j hj).1, yvv (m2 j (by omega)).1] at q1
        rw [yvv (k2 j hj).2, yvv (m2 j (by omega)).2] at q2
        rw [← pair_says (hf j hj).1 (hf j hj).2, ← pair_says (hg j (by omega)).1 (hg j (by omega)).2, q1, q2]
      · rintro ⟨rfl, e2⟩
        refine ⟨by omega, fun i hi => ?_⟩
        rcases Nat.mod_two_eq_zero_or_one i with e | e
        · obtain ⟨j, rfl⟩ : ∃ j, i = 2 * j := ⟨i / 2, by omega⟩
          rw [yvv (k2 j (by omega)).1, yvv (m2 j (by omega)).1, e2 j (by omega)]
        · obtain ⟨j, rfl⟩ : ∃ j, i = 2 * j + 1 := ⟨i / 2, by omega⟩
          rw [yvv (k2 j (by omega)).2, yvv (m2 j (by omega)).2, e2 j (by omega)]
/-- two codings differ: so do the texts -/
theorem Cod.dif {cd cd' : Int32} {n k : Nat} {f g : Nat → Int32} {V V' : Cell} (h : Cod cd n f V) (h' : Cod cd' k g V') (hne : ¬ cd = cd') : ¬ SameT n f k g := by
  rintro ⟨rfl, e⟩
  rcases h with ⟨rfl, -, k2⟩ | ⟨rfl, -, -, j, hj, hw⟩
  · rcases h' with ⟨rfl, -⟩ | ⟨-, -, -, j, hj, hw⟩
    · exact hne rfl
    · exact (k2 j hj).2 (by rw [e j hj]; exact hw)
  · rcases h' with ⟨-, -, m2⟩ | ⟨rfl, -⟩
    · exact (m2 j hj).2 (by rw [← e j hj]; exact hw)
    · exact hne rfl
/-- an object of exactly C is an instance of C -/
theorem cinst {p : Program} {l : Launch} {e : Env} {R : Room} {s : State} {m : MethodId} {args : Array Value} {below : List Frame} {meth : Method} {c : Code} {T : State} {locs : List Loc} {cells slots : Nat} (X : Stand p l e R s m args below meth c T locs cells slots) (hexec : p.tables.exec = Jvm.exec) {own C : String} {index : Nat} (hown : s.vm.findClass own = some m.cls) (hlink : (Cond.classLink own index C).before args s = true) {a : Addr} (hE : Exact C a T)
    {g : JFrame} (hg : g.method = m) {rest : List Value} (hstack : g.stack = .ref a :: rest) (hdg : decode c.code g.pc = .ok (.instanceof index, 3)) :
    ∃ T', Stand p l e R s m args below meth c T' locs cells slots ∧ T'.heap = T.heap ∧ ∀ target, Steps p.tables e below (T'.setTop { g with pc := g.pc + 3, stack := .int 1 :: rest }) target → Steps p.tables e below (T.setTop g) target := by
  obtain ⟨cB, h1, D, h2, h3, h4⟩ := hE
  have h1' : s.vm.findClass C = some cB := by rw [← X.warmed.alike.findClass]; exact h1
  obtain ⟨vm', X', st⟩ := X.instanceofYes hexec hown hlink h2 h4 h1' (by rw [h3]; exact Jvm.Free.SB.assignable_self _ _) hg hstack hdg
  exact ⟨_, X', rfl, st⟩
theorem cself {p : Program} {l : Launch} {e : Env} {R : Room} {s : State} {m : MethodId} {args : Array Value} {below : List Frame} {meth : Method} {c : Code} {T : State} {locs : List Loc} {cells slots : Nat} (X : Stand p l e R s m args below meth c T locs cells slots) (hexec : p.tables.exec = Jvm.exec) {own C : String} {index : Nat} (hown : s.vm.findClass own = some m.cls) (hlink : (Cond.classLink own index C).before args s = true) {a : Addr} (hE : Exact C a T)
    {g : JFrame} (hg : g.method = m) {rest : List Value} (hstack : g.stack = .ref a :: rest) (hdg : decode c.code g.pc = .ok (.checkcast index, 3)) :
    ∃ T', Stand p l e R s m args below meth c T' locs cells slots ∧ T'.heap = T.heap ∧ ∀ target, Steps p.tables e below (T'.setTop { g with pc := g.pc + 3, stack := .ref a :: rest }) target → Steps p.tables e below (T.setTop g) target := by
  obtain ⟨cB, h1, D, h2, h3, h4⟩ := hE
  have h1' : s.vm.findClass C = some cB := by rw [← X.warmed.alike.findClass]; exact h1
  obtain ⟨vm', X', st⟩ := X.checkcastYes hexec hown hlink h2 h4 h1' (by rw [h3]; exact Jvm.Free.SB.assignable_self _ _) hg hstack hdg
  exact ⟨_, X', rfl, fun t h => st t (by rw [← hstack] at h; exact h)⟩
namespace SEq
def yN : MethodName := ⟨"java/lang/String", "equals", "(Ljava/lang/Object;)Z"⟩
abbrev yB : ByteArray := jdk_42_method_66_code
theorem d0 : decode yB 0 = .ok (.aload_n 0, 1) := by decide +kernel
theorem d1 : decode yB 1 = .ok (.aload_n 1, 1) := by decide +kernel
theorem d2 : decode yB 2 = .ok (.if_acmp (.ne) 5, 3) := by decide +kernel
theorem d5 : decode yB 5 = .ok (.iconst 1, 1) := by decide +kernel
theorem d6 : decode yB 6 = .ok (.ireturn, 1) := by decide +kernel
theorem d7 : decode yB 7 = .ok (.aload_n 1, 1) := by decide +kernel
theorem d8 : decode yB 8 = .ok (.instanceof 10, 3) := by decide +kernel
theorem d11 : decode yB 11 = .ok (.ifCond (.eq) 43, 3) := by decide +kernel
theorem d14 : decode yB 14 = .ok (.aload_n 1, 1) := by decide +kernel
theorem d15 : decode yB 15 = .ok (.checkcast 10, 3) := by decide +kernel
theorem d18 : decode yB 18 = .ok (.astore_n 2, 1) := by decide +kernel
theorem d19 : decode yB 19 = .ok (.getstatic 38, 3) := by decide +kernel
theorem d22 : decode yB 22 = .ok (.ifCond (.eq) 14, 3) := by decide +kernel
theorem d25 : decode yB 25 = .ok (.aload_n 0, 1) := by decide +kernel
theorem d26 : decode yB 26 = .ok (.getfield 15, 3) := by decide +kernel
theorem d29 : decode yB 29 = .ok (.aload_n 2, 1) := by decide +kernel
theorem d30 : decode yB 30 = .ok (.getfield 15, 3) := by decide +kernel
theorem d33 : decode yB 33 = .ok (.if_icmp (.ne) 21, 3) := by decide +kernel
theorem d36 : decode yB 36 = .ok (.aload_n 0, 1) := by decide +kernel
theorem d37 : decode yB 37 = .ok (.getfield 9, 3) := by decide +kernel
theorem d40 : decode yB 40 = .ok (.aload_n 2, 1) := by decide +kernel
theorem d41 : decode yB 41 = .ok (.getfield 9, 3) := by decide +kernel
theorem d44 : decode yB 44 = .ok (.invokestatic 541, 3) := by decide +kernel
theorem d47 : decode yB 47 = .ok (.ifCond (.eq) 7, 3) := by decide +kernel
theorem d50 : decode yB 50 = .ok (.iconst 1, 1) := by decide +kernel
theorem d51 : decode yB 51 = .ok (.goto 4, 3) := by decide +kernel
theorem d54 : decode yB 54 = .ok (.iconst 0, 1) := by decide +kernel
theorem d55 : decode yB 55 = .ok (.ireturn, 1) := by decide +kernel
def site : List Cond := [.classLink "java/lang/String" 10 "java/lang/String", .fieldLink "java/lang/String" 38 "java/lang/String" "COMPACT_STRINGS" "Z", .fieldLink "java/lang/String" 15 "java/lang/String" "coder" "B", .fieldLink "java/lang/String" 9 "java/lang/String" "value" "[B", LEq.tab] ++ staticW "java/lang/String" 541 LEq.yN
def tab : Cond := tabOf yN yB 3 (some .boolean) site
def P (x t : Addr) (V : Cell) (cd : Int32) (n : Nat) (f : Nat → Int32) (y t' : Addr) (V' : Cell) (cd' : Int32) (k : Nat) (g : Nat → Int32) (z : Int32) (args : Array Value) (s : State) : Prop := args = #[.ref x, .ref y] ∧ Txt x t V cd n f s ∧ Txt y t' V' cd' k g s ∧ StaticIs s "java/lang/String" "COMPACT_STRINGS" "Z" (.int z) ∧ ¬ z = 0
/-- equals(Object) of two Strings: whether the texts are the same -/
theorem law (l : Launch) (x t : Addr) (V : Cell) (cd : Int32) (n : Nat) (f : Nat → Int32) (y t' : Addr) (V' : Cell) (cd' : Int32) (k : Nat) (g : Nat → Int32) (z : Int32) : Law l yN 2 1 1 14 yB 3 (some .boolean) site (P x t V cd n f y t' V' cd' k g z) (Says01 (SameT n f k g)) [] 0 0 := by
  refine Law.of_walk (plainFor_of_name (by decide +kernel)) (by decide +kernel) (by decide +kernel) (by decide) (fun _ _ h => by rw [h.1]; rfl) (fun _ U U' hal hh h => ⟨h.1, h.2.1.mv hal hh, h.2.2.1.mv hal hh, h.2.2.2.1.there hal hh, h.2.2.2.2⟩) (fun r U U' V V' h1 hal h2 h => Says01.mv r U U' V V' h1 hal h2 h) ?_
  intro p e s m args below meth c s₁ X0 hexec hbytes hml hret hlk hnm hown hh0 W hP
  obtain ⟨rfl, hx, hy, s1, hz⟩ := hP
  have c1 : Steps p.tables e below (s₁.setTop (entryFrame m #[.ref x, .ref y] 3)) (s₁.setTop (mkF m 2 #[.val (.ref x), .val (.ref y), .unset] [.ref y, .ref x])) := Steps.trans (entry rfl) (by
    show Steps p.tables e below (s₁.setTop (mkF m 0 #[.val (.ref x), .val (.ref y), .unset] [])) _
    refine XS.aloadN X0.here hexec rfl (hb hbytes d0) rfl rfl ?_
    refine XS.aloadN X0.here hexec rfl (hb hbytes d1) rfl rfl ?_
    exact Steps.refl _)
  by_cases hxy : x = y
  · have c2 : Steps p.tables e below (s₁.setTop (entryFrame m #[.ref x, .ref y] 3)) (s₁.setTop (mkF m 6 #[.val (.ref x), .val (.ref y), .unset] [.int 1])) := c1.trans (by
      refine acmpNo X0.here hexec rfl (hb hbytes d2) rfl rfl rfl (by simp [acmp, hxy]) ?_
      refine iconstV X0.here hexec rfl 1 (hb hbytes d5) (by decide) ?_
      exact Steps.refl _)
    subst hxy
    have ec : cd = cd' := by
      obtain ⟨D, fd, a1, a2, a3⟩ := hx.2.2.1
      obtain ⟨D', fd', b1, b2, b3⟩ := hy.2.2.1
      cases a1.symm.trans b1
      obtain ⟨q1, q2, q3, q4⟩ := a2.1
      obtain ⟨r1, r2, r3, r4⟩ := b2.1
      cases q4.symm.trans r4
      cases a3.symm.trans b3; rfl
    have et : t = t' := by
      obtain ⟨D, fd, a1, a2, a3⟩ := hx.2.1
      obtain ⟨D', fd', b1, b2, b3⟩ := hy.2.1
      cases a1.symm.trans b1
      obtain ⟨q1, q2, q3, q4⟩ := a2.1
      obtain ⟨r1, r2, r3, r4⟩ := b2.1
      cases q4.symm.trans r4
      cases a3.symm.trans b3; rfl
    subst ec et
    have ev : V = V' := by cases hx.2.2.2.1.1.symm.trans hy.2.2.2.1.1; rfl
    subst ev
    have hs : SameT n f k g := (Cod.eqv hx.2.2.2.2.1 hy.2.2.2.2.1 hx.2.2.2.2.2 hy.2.2.2.2.2).mp ⟨rfl, fun _ _ => rfl⟩
    exact ⟨s₁, some (.int 1), _, _, _, X0, rfl, rfl, rfl, (fun h => by cases h), ⟨1, rfl, hh0, Or.inl ⟨rfl, hs⟩⟩, fun fs hl => c2.trans (X0.ireturnOut hexec hret rfl (Or.inr (Or.inl rfl)) (hb hbytes d6) hl)⟩
  · have c2 : Steps p.tables e below (s₁.setTop (entryFrame m #[.ref x, .ref y] 3)) (s₁.setTop (mkF m 8 #[.val (.ref x), .val (.ref y), .unset] [.ref y])) := c1.trans (by
      refine acmpYes X0.here hexec rfl (pc0 := 2) rfl (hb hbytes d2) rfl rfl rfl (by simp [acmp, hxy]) (by decide) rfl ?_
      refine XS.aloadN X0.here hexec rfl (hb hbytes d7) rfl rfl ?_
      exact Steps.refl _)
    obtain ⟨T3, X3, q3, st3⟩ := cinst X0 hexec hown (wk W (.classLink "java/lang/String" 10 "java/lang/String")) (hy.mv X0.warmed.alike hh0).1 (g := (mkF m 8 #[.val (.ref x), .val (.ref y), .unset] [.ref y])) rfl (rest := []) rfl (hb hbytes d8)
    have hh3 := q3.trans hh0
    have c4 : Steps p.tables e below (s₁.setTop (entryFrame m #[.ref x, .ref y] 3)) (T3.setTop (mkF m 15 #[.val (.ref x), .val (.ref y), .unset] [.ref y])) := (c2.trans (st3 _ (Steps.refl _))).trans (by
      refine XS.ifNo X3.here hexec rfl (hb hbytes d11) rfl (i0_eq_f (by decide)) ?_
      refine XS.aloadN X3.here hexec rfl (hb hbytes d14) rfl rfl ?_
      exact Steps.refl _)
    obtain ⟨T5, X5, q5, st5⟩ := cself X3 hexec hown (wk W (.classLink "java/lang/String" 10 "java/lang/String")) (hy.mv X3.warmed.alike hh3).1 (g := (mkF m 15 #[.val (.ref x), .val (.ref y), .unset] [.ref y])) rfl (rest := []) rfl (hb hbytes d15)
    have hh5 := q5.trans hh3
    have c6 : Steps p.tables e below (s₁.setTop (entryFrame m #[.ref x, .ref y] 3)) (T5.setTop (mkF m 19 #[.val (.ref x), .val (.ref y), .val (.ref y)] [])) := (c4.trans (st5 _ (Steps.refl _))).trans (by
      refine XS.astoreN X5.here hexec rfl (hb hbytes d18) rfl rfl rfl ?_
      exact Steps.refl _)
    obtain ⟨T7, X7, q7, st7⟩ := X5.sget hexec hown (wk W (.fieldLink "java/lang/String" 38 "java/lang/String" "COMPACT_STRINGS" "Z")) s1 (fun _ _ h => by rw [hh5]; exact h) (g := (mkF m 19 #[.val (.ref x), .val (.ref y), .val (.ref y)] [])) rfl (hb hbytes d19)
    have hh7 := q7.trans hh5
    have c8 : Steps p.tables e below (s₁.setTop (entryFrame m #[.ref x, .ref y] 3)) (T7.setTop (mkF m 26 #[.val (.ref x), .val (.ref y), .val (.ref y)] [.ref x])) := (c6.trans (st7 _ (Steps.refl _))).trans (by
      refine XS.ifNo X7.here hexec rfl (hb hbytes d22) rfl (i0_eq_f hz) ?_
      refine XS.aloadN X7.here hexec rfl (hb hbytes d25) rfl rfl ?_
      exact Steps.refl _)
    obtain ⟨T9, X9, q9, st9⟩ := X7.hget hexec hown (wk W (.fieldLink "java/lang/String" 15 "java/lang/String" "coder" "B")) (hx.mv X7.warmed.alike hh7).2.2.1 (g := (mkF m 26 #[.val (.ref x), .val (.ref y), .val (.ref y)] [.ref x])) rfl (rest := []) rfl (hb hbytes d26)
    have hh9 := q9.trans hh7
    have c10 : Steps p.tables e below (s₁.setTop (entryFrame m #[.ref x, .ref y] 3)) (T9.setTop (mkF m 30 #[.val (.ref x), .val (.ref y), .val (.ref y)] [.ref y, .int cd])) := (c8.trans (st9 _ (Steps.refl _))).trans (by
      refine XS.aloadN X9.here hexec rfl (hb hbytes d29) rfl rfl ?_
      exact Steps.refl _)
    obtain ⟨T11, X11, q11, st11⟩ := X9.hget hexec hown (wk W (.fieldLink "java/lang/String" 15 "java/lang/String" "coder" "B")) (hy.mv X9.warmed.alike hh9).2.2.1 (g := (mkF m 30 #[.val (.ref x), .val (.ref y), .val (.ref y)] [.ref y, .int cd])) rfl (rest := [.int cd]) rfl (hb hbytes d30)
    have hh11 := q11.trans hh9
    have c12 : Steps p.tables e below (s₁.setTop (entryFrame m #[.ref x, .ref y] 3)) (T11.setTop (mkF m 33 #[.val (.ref x), .val (.ref y), .val (.ref y)] [.int cd', .int cd])) := c10.trans (st11 _ (Steps.refl _))
    by_cases hcd : cd = cd'
    · subst hcd
      have c13 : Steps p.tables e below (s₁.setTop (entryFrame m #[.ref x, .ref y] 3)) (T11.setTop (mkF m 37 #[.val (.ref x), .val (.ref y), .val (.ref y)] [.ref x])) := c12.trans (by
        refine XS.icmpNo X11.here hexec rfl (hb hbytes d33) rfl (ii_ne_f rfl) ?_
        refine XS.aloadN X11.here hexec rfl (hb hbytes d36) rfl rfl ?_
        exact Steps.refl _)
      obtain ⟨T14, X14, q14, st14⟩ := X11.hget hexec hown (wk W (.fieldLink "java/lang/String" 9 "java/lang/String" "value" "[B")) (hx.mv X11.warmed.alike hh11).2.1 (g := (mkF m 37 #[.val (.ref x), .val (.ref y), .val (.ref y)] [.ref x])) rfl (rest := []) rfl (hb hbytes d37)
      have hh14 := q14.trans hh11
      have c15 : Steps p.tables e below (s₁.setTop (entryFrame m #[.ref x, .ref y] 3)) (T14.setTop (mkF m 41 #[.val (.ref x), .val (.ref y), .val (.ref y)] [.ref y, .ref t])) := (c13.trans (st14 _ (Steps.refl _))).trans (by
        refine XS.aloadN X14.here hexec rfl (hb hbytes d40) rfl rfl ?_
        exact Steps.refl _)
      obtain ⟨T16, X16, q16, st16⟩ := X14.hget hexec hown (wk W (.fieldLink "java/lang/String" 9 "java/lang/String" "value" "[B")) (hy.mv X14.warmed.alike hh14).2.1 (g := (mkF m 41 #[.val (.ref x), .val (.ref y), .val (.ref y)] [.ref y, .ref t])) rfl (rest := [.ref t]) rfl (hb hbytes d41)
      have hh16 := q16.trans hh14
      have c17 : Steps p.tables e below (s₁.setTop (entryFrame m #[.ref x, .ref y] 3)) (T16.setTop (mkF m 44 #[.val (.ref x), .val (.ref y), .val (.ref y)] [.ref t', .ref t])) := c15.trans (st16 _ (Steps.refl _))
      obtain ⟨v18, T18, X18, E18, g18⟩ := X16.callS hexec (LEq.law l t V t' V') hown (wks W (staticW "java/lang/String" 541 LEq.yN)) (wk W LEq.tab) (W := 0) (Nat.le_of_ble_eq_true rfl) (Nat.le_of_ble_eq_true rfl) (Nat.le_refl _) (Nat.le_refl _) (g := (mkF m 44 #[.val (.ref x), .val (.ref y), .val (.ref y)] [.ref t', .ref t])) rfl (by rw [hml]; rfl) c17 (argsL := [.ref t, .ref t']) (rest := []) rfl rfl (by show 2 * 0 + 0 ≤ _; decide) (hb hbytes d44) (⟨rfl, hx.2.2.2.1.mv X16.warmed.alike hh16, hx.2.2.2.2.1.ty, hy.2.2.2.1.mv X16.warmed.alike hh16, hy.2.2.2.2.1.ty⟩)
      obtain ⟨v, rfl, q18, hv⟩ := E18
      have iff := Cod.eqv hx.2.2.2.2.1 hy.2.2.2.2.1 hx.2.2.2.2.2 hy.2.2.2.2.2
      rcases hv with ⟨rfl, he⟩ | ⟨rfl, he⟩
      · have c19 : Steps p.tables e below (s₁.setTop (entryFrame m #[.ref x, .ref y] 3)) (T18.setTop (mkF m 55 #[.val (.ref x), .val (.ref y), .val (.ref y)] [.int 1])) := Steps.trans g18 (by
          refine XS.ifNo X18.here hexec rfl (hb hbytes d47) rfl (i0_eq_f (by decide)) ?_
          refine iconstV X18.here hexec rfl 1 (hb hbytes d50) (by decide) ?_
          refine XS.goto X18.here hexec rfl (pc0 := 51) rfl (hb hbytes d51) (by decide) rfl ?_
          exact Steps.refl _)
        exact ⟨T18, some (.int 1), _, _, _, X18, rfl, rfl, rfl, (fun h => by cases h), ⟨1, rfl, q18.trans hh16, Or.inl ⟨rfl, iff.mp he⟩⟩, fun fs hl => c19.trans (X18.ireturnOut hexec hret rfl (Or.inr (Or.inl rfl)) (hb hbytes d55) hl)⟩
      · have c19 : Steps p.tables e below (s₁.setTop (entryFrame m #[.ref x, .ref y] 3)) (T18.setTop (mkF m 55 #[.val (.ref x), .val (.ref y), .val (.ref y)] [.int 0])) := Steps.trans g18 (by
          refine XS.ifYes X18.here hexec rfl (pc0 := 47) rfl (hb hbytes d47) rfl (i0_eq_t rfl) (by decide) rfl ?_
          refine iconstV X18.here hexec rfl 0 (hb hbytes d54) (by decide) ?_
          exact Steps.refl _)
        exact ⟨T18, some (.int 0), _, _, _, X18, rfl, rfl, rfl, (fun h => by cases h), ⟨0, rfl, q18.trans hh16, Or.inr ⟨rfl, fun q => he (iff.mpr q)⟩⟩, fun fs hl => c19.trans (X18.ireturnOut hexec hret rfl (Or.inr (Or.inl rfl)) (hb hbytes d55) hl)⟩
    · have c13 : Steps p.tables e below (s₁.setTop (entryFrame m #[.ref x, .ref y] 3)) (T11.setTop (mkF m 55 #[.val (.ref x), .val (.ref y), .val (.ref y)] [.int 0])) := c12.trans (by
        refine XS.icmpYes X11.here hexec rfl (pc0 := 33) rfl (hb hbytes d33) rfl (ii_ne_t hcd) (by decide) rfl ?_
        refine iconstV X11.here hexec rfl 0 (hb hbytes d54) (by decide) ?_
        exact Steps.refl _)
      exact ⟨T11, some (.int 0), _, _, _, X11, rfl, rfl, rfl, (fun h => by cases h), ⟨0, rfl, hh11, Or.inr ⟨rfl, Cod.dif hx.2.2.2.2.1 hy.2.2.2.2.1 hcd⟩⟩, fun fs hl => c13.trans (X11.ireturnOut hexec hret rfl (Or.inr (Or.inl rfl)) (hb hbytes d55) hl)⟩
theorem pays {l : Launch} {R : Room} {p : Program} {e : Env} {below : List Frame} {s : State} {sargs : Array Value} {len W : Nat} (x t : Addr) (V : Cell) (cd : Int32) (n : Nat) (f : Nat → Int32) (y t' : Addr) (V' : Cell) (cd' : Int32) (k : Nat) (g : Nat → Int32) (z : Int32) (htab : tab.before sargs s = true) (hfr : 2 ≤ R.frames) (hlo : W + 28 ≤ R.locals) :
    Back l R p e below s sargs yN len W (fun A₁ a₁ => A₁.cells + 0 ≤ R.cells ∧ A₁.slots + 0 ≤ R.slots ∧ P x t V cd n f y t' V' cd' k g z a₁ A₁.U) (fun A₁ _ v₁ B₁ => Says01 (SameT n f k g) v₁ A₁.U B₁.U ∧ B₁.locs = A₁.locs ++ [] ∧ B₁.cells = A₁.cells + 0 ∧ B₁.slots = A₁.slots + 0) :=
  (law l x t V cd n f y t' V' cd' k g z).pays htab hfr (by omega)
end SEq
end StrChars
namespace StrChars.Road
open Jvm Sem ClassFile Op Lib Jvm.Stand Jvm.Free Jvm.Free.XT
open Jvm.Lib.Cold (StaticIs)
/-- the words of String.equals(Object) -/
abbrev wordsEq : List Jvm.Cond := [.code SEq.yN SEq.yB 3 (some .boolean), .initialized ST, .classLink ST 10 ST, .fieldLink ST 38 ST "COMPACT_STRINGS" "Z", .fieldLink ST 15 ST "coder" "B", .fieldLink ST 9 ST "value" "[B", .methodLink ST 541 LEq.yN, .static LEq.yN, .code LEq.yN LEq.yB 3 (some .boolean), .initialized "java/lang/StringLatin1"]
theorem tabEq_of {a : Array Value} {s : State} (h : ∀ w ∈ wordsEq, w.before a s = true) : SEq.tab.before a s = true := by
  have hl : LEq.tab.before a s = true := unparts (wk h (.code LEq.yN LEq.yB 3 (some .boolean))) (wks h (.initialized LEq.yN.cls :: LEq.site))
  have q := consq hl h
  exact unparts (wk q (.code SEq.yN SEq.yB 3 (some .boolean))) (wks q (.initialized SEq.yN.cls :: SEq.site))
theorem movedEq {Z s : State} {a0 args : Array Value} (hZ : Z.Warmed39 s.vm) (hw : ∀ d ∈ wordsEq, d.before a0 Z = true) : ∀ d ∈ wordsEq, d.before args s = true := fun d hd => by
  have t : ∀ d ∈ wordsEq, (d.onTables && d.keepsFace) = true := by decide +kernel
  exact RoadKit.mv hZ (hw d hd) (t d hd)
/-- the road's facts of a String, as the laws ask it -/
theorem txt_of {Z U : State} {a0 : Array Value} {kI : Nat} (wi : (Jvm.Cond.instantiable ST kI).before a0 Z = true) (al : Z.vm.Alike U.vm) {x t : Addr} {kb : ClassId} {cs : List Int32} {cd N2 : Int32} {vs : List Value} (E : RoadKit.Exa Z U.heap x ST) (V : RoadKit.Fld Z U.heap x ST "value" "[B" (.ref t)) (C : RoadKit.Fld Z U.heap x ST "coder" "B" (.int cd)) (K : RoadKit.Arv Z U.heap t kb .byte N2 vs (.int 0)) (hc : CodA cs cd N2 vs) (hb : ∀ c ∈ cs, ¬ c < 0 ∧ ¬ (65535 : Int32) < c) (l2 : cs.length ≤ 4000) :
    ∃ A, Txt x t A cd cs.length (fun j => cs.getD j 0) U := by
  obtain ⟨A, K1, K2, K3, K4, K5, K6⟩ := K
  have hcod := hc.cod (by omega) K3 K5
  obtain ⟨D, fV, fC, hB, F1, F2, g1, g2, -, -⟩ := strObj wi al E V C
  exact ⟨A, ⟨_, hB.2.2.1, D, hB.1, rfl, by cases q : D.vm <;> first | rfl | exact absurd q (hB.2.1.2 _)⟩, Has.of hB F1 g1, Has.of hB F2 g2, ⟨K1.1, State.isArrayOf_alike al K1.2.1, K1.2.2, by rcases hcod with ⟨-, q, -⟩ | ⟨-, q, -⟩ <;> omega⟩, hcod, fun j hj => by
    have e : cs.getD j 0 = cs[j] := by simp [List.getD_eq_getElem?_getD, hj]
    show ¬ cs.getD j 0 < 0 ∧ ¬ 65535 < cs.getD j 0
    rw [e]; exact hb _ (List.getElem_mem _)⟩
theorem same_list (cs ds : List Int32) : SameT cs.length (fun j => cs.getD j 0) ds.length (fun j => ds.getD j 0) ↔ cs = ds := by
  constructor
  · rintro ⟨e, q⟩
    refine List.ext_getElem e fun j h1 h2 => ?_
    have := q j h1
    simpa [List.getD_eq_getElem?_getD, h1, h2] using this
  · rintro rfl
    exact ⟨rfl, fun _ _ => rfl⟩
/-- **equals(Object) OF TWO SUCH STRINGS**: 1 just where the chars are the same -/
theorem eqW {p : Program} {l : Launch} {e : Env} {R : Room} {s : State} {args : Array Value} {below : List Frame} {len W : Nat} {Z : State} {a0 : Array Value} {h : Heap} (hZ : Z.Warmed39 s.vm) (hw : ∀ d ∈ wordsEq, d.before a0 Z = true) {kI : Nat} (wi : (Jvm.Cond.instantiable ST kI).before a0 Z = true)
    {x t : Addr} {kb : ClassId} {cs : List Int32} {cd N2 : Int32} {vs : List Value} (E : RoadKit.Exa Z h x ST) (V : RoadKit.Fld Z h x ST "value" "[B" (.ref t)) (C : RoadKit.Fld Z h x ST "coder" "B" (.int cd)) (K : RoadKit.Arv Z h t kb .byte N2 vs (.int 0)) (hc : CodA cs cd N2 vs) (hb : ∀ c ∈ cs, ¬ c < 0 ∧ ¬ (65535 : Int32) < c) (l2 : cs.length ≤ 4000)
    {y t' : Addr} {kb' : ClassId} {ds : List Int32} {cd' N2' : Int32} {vs' : List Value} (E' : RoadKit.Exa Z h y ST) (V' : RoadKit.Fld Z h y ST "value" "[B" (.ref t')) (C' : RoadKit.Fld Z h y ST "coder" "B" (.int cd')) (K' : RoadKit.Arv Z h t' kb' .byte N2' vs' (.int 0)) (hc' : CodA ds cd' N2' vs') (hb' : ∀ c ∈ ds, ¬ c < 0 ∧ ¬ (65535 : Int32) < c) (l2' : ds.length ≤ 4000)
    {z : Int32} (S : RoadKit.Sta Z h ST "COMPACT_STRINGS" "Z" (.int z)) (hz : ¬ z = 0) (hfr : 2 ≤ R.frames) (hlo : W + 28 ≤ R.locals) :
    Back l R p e below s args (⟨"java/lang/String", "equals", "(Ljava/lang/Object;)Z"⟩ : MethodName) len W (fun P a => a = #[.ref x, .ref y] ∧ P.U.heap = h ∧ P.cells + 0 ≤ R.cells ∧ P.slots + 0 ≤ R.slots)
      (fun P _ v B => ∃ L, (((v = some (.int 1) ∧ cs = ds) ∨ (v = some (.int 0) ∧ ¬ cs = ds)) ∧ L = [] ∧ B.U.heap = h) ∧ B.locs = P.locs ++ L ∧ B.cells = P.cells + 0 ∧ B.slots = P.slots + 0) := by
  intro m meth c P g ig mk a X hg hsize hdg hW hn hp'
  obtain ⟨rfl, rfl, r1, r2⟩ := hp'
  have al : Z.vm.Alike P.U.vm := hZ.alike.trans X.warmed.alike
  obtain ⟨A, hx⟩ := txt_of wi al E V C K hc hb l2
  obtain ⟨A', hy⟩ := txt_of wi al E' V' C' K' hc' hb' l2'
  obtain ⟨v, B, X', ⟨⟨w, hv, hh, hq⟩, hl, hk, hs⟩, st⟩ := SEq.pays x t A cd cs.length (fun j => cs.getD j 0) y t' A' cd' ds.length (fun j => ds.getD j 0) z (tabEq_of (movedEq hZ hw)) hfr hlo m meth c P g ig mk _ X hg hsize hdg hW hn ⟨r1, r2, rfl, hx, hy, sta_is al S, hz⟩
  refine ⟨v, B, X', ⟨[], ⟨?_, rfl, hh⟩, hl, hk, hs⟩, st⟩
  rcases hq with ⟨rfl, q⟩ | ⟨rfl, q⟩
  · exact Or.inl ⟨hv, (same_list cs ds).mp q⟩
  · exact Or.inr ⟨hv, fun e => q ((same_list cs ds).mpr e)⟩
end StrChars.Road
namespace StrChars.Road
open Jvm Sem ClassFile Op Lib Jvm.Stand Jvm.Free Jvm.Free.XT
open Jvm.Lib.Cold (StaticIs)
/-- what backV says of its String, as the contracts of this text ask it: cs's low bytes, coder 0 -/
theorem codOf {cs : List Int32} {n : Nat} (hn : cs.length = n) (hb : ∀ c ∈ cs, ¬ 255 < c) : CodA cs 0 (Int32.ofNat n) ((cs.map lo8).map Value.int) := Or.inl ⟨rfl, by rw [hn], by simp [List.map_map, Function.comp_def], hb⟩
end StrChars.Road
end Jvm.Pilot.@@N@@

namespace Jvm.Pilot.@@N@@
open Jvm Jvm.ClassFile Sem Op Lib Jvm.Free Jvm.Stand Jvm.LawKit Jvm.RoadKit Bundle Jvm.Pilot.@@N@@.Jvm.D
theorem own_eqL {x y : Int64} (h : x = y) : lcmpW x y = 0 := by rw [lcW]; exact (lc_eq x y).2 h
theorem own_neL {x y : Int64} (h : ¬ x = y) : ¬ lcmpW x y = 0 := by rw [lcW]; exact fun q => h ((lc_eq x y).1 q)
theorem own_ltL {x y : Int64} (h : x < y) : lcmpW x y < 0 := by rw [lcW]; exact (lc_lt x y).2 h
theorem own_nltL {x y : Int64} (h : ¬ x < y) : ¬ lcmpW x y < 0 := by rw [lcW]; exact fun q => h ((lc_lt x y).1 q)
theorem own_gtL {x y : Int64} (h : y < x) : 0 < lcmpW x y := by rw [lcW]; exact (lc_gt x y).2 h
theorem own_ns_exa {Z : State} {h : Heap} {a : Addr} {C : String} (E : Exa Z h a C) : ∀ cell : Cell, h[a]? = some cell → cell.vm.isStatics = false := by
  obtain ⟨c, k, h1, -, -, h4, -⟩ := E
  intro cell hc; cases h1.symm.trans hc; exact h4
theorem own_ns1 {h : Heap} {a : Addr} (p : ∀ cell : Cell, h[a]? = some cell → cell.vm.isStatics = false) : ∀ x ∈ [a], ∀ cell : Cell, h[x]? = some cell → cell.vm.isStatics = false := by
  intro x hx; cases List.mem_singleton.mp hx; exact p
theorem own_ns2 {h : Heap} {a b : Addr} (p : ∀ cell : Cell, h[a]? = some cell → cell.vm.isStatics = false) (q : ∀ cell : Cell, h[b]? = some cell → cell.vm.isStatics = false) : ∀ x ∈ [a, b], ∀ cell : Cell, h[x]? = some cell → cell.vm.isStatics = false := by
  intro x hx; simp only [List.mem_cons, List.not_mem_nil, or_false] at hx; rcases hx with rfl | rfl <;> first | exact p | exact q
theorem own_sta_keep {Z : State} {h h' : Heap} {ws : List Addr} {C n d : String} {v : Value} (F : Sta Z h C n d v) (K : Keep h h' ws) (hn : ∀ x ∈ ws, ∀ cell : Cell, h[x]? = some cell → cell.vm.isStatics = false) : Sta Z h' C n d v := by
  obtain ⟨cf, i, k, f, st, cell, h1, h2, h3, h4, h5, h6, r⟩ := F
  exact ⟨cf, i, k, f, st, cell, h1, h2, h3, h4, K.2.1 _ _ h5 (fun q => by rw [hn _ q _ h5] at h6; cases h6), h6, r⟩
theorem own_sta_keep0 {Z : State} {h h' : Heap} {C n d : String} {v : Value} (F : Sta Z h C n d v) (K : Keep h h' []) : Sta Z h' C n d v := by
  obtain ⟨cf, i, k, f, st, cell, h1, h2, h3, h4, h5, r⟩ := F
  exact ⟨cf, i, k, f, st, cell, h1, h2, h3, h4, K.2.1 _ _ h5 List.not_mem_nil, r⟩
theorem own_ngtL {x y : Int64} (h : ¬ y < x) : ¬ 0 < lcmpW x y := by rw [lcW]; exact fun q => h ((lc_gt x y).1 q)
theorem own_wordsEq {Z : State} {ar0 : Array Value} (hw : ∀ d ∈ tables_1, d.before ar0 Z = true) : ∀ d ∈ StrChars.Road.wordsEq, d.before ar0 Z = true := fun d hd => hw d ((by decide +kernel : ∀ d ∈ StrChars.Road.wordsEq, d ∈ tables_1) d hd)
theorem own_words {Z : State} {ar0 : Array Value} (hw : ∀ d ∈ tables_1, d.before ar0 Z = true) : ∀ d ∈ StrChars.Road.words, d.before ar0 Z = true := fun d hd => hw d ((by decide +kernel : ∀ d ∈ StrChars.Road.words, d ∈ tables_1) d hd)
theorem own_up (cs : List Int32) (h : ∀ c ∈ cs, ¬ c < 0 ∧ ¬ (255 : Int32) < c) : ∀ c ∈ cs, ¬ c < 0 ∧ ¬ (65535 : Int32) < c := fun c hc => ⟨(h c hc).1, fun q => (h c hc).2 (by rw [Int32.lt_iff_toInt_lt] at q ⊢; have e1 : (65535 : Int32).toInt = 65535 := rfl; have e2 : (255 : Int32).toInt = 255 := rfl; omega)⟩
theorem own_eqI {a : Term} {k : Int32} {args : Array Value} {first s : State} {o : Option Outcome} {idx : List Nat} (h : (Cond.eq a (.int k)).value args first o s idx = some true) : a.eval args first o idx s = some (.int k) := by
  simp only [Cond.value, Term.eval] at h
  cases ha : a.eval args first o idx s with
  | none => simp [ha] at h
  | some x => cases x <;> simp [ha] at h ⊢; exact h
theorem own_eqJ {a : Term} {k : Int64} {args : Array Value} {first s : State} {o : Option Outcome} {idx : List Nat} (h : (Cond.eq a (.long k)).value args first o s idx = some true) : a.eval args first o idx s = some (.long k) := by
  simp only [Cond.value, Term.eval] at h
  cases ha : a.eval args first o idx s with
  | none => simp [ha] at h
  | some x => cases x <;> simp [ha] at h ⊢; exact h
theorem own_len {args : Array Value} {s : State} {t : Term} {a : Addr} {cl : Cell} {n : Int32} (ht : t.eval args s none [] s = some (.ref a)) (hc : s.arrayAt? a = some cl) (h : (Term.length t).eval args s none [] s = some (.int n)) : cl.slots.size < 2 ^ 31 ∧ cl.slots.size.toInt32 = n := by
  simp only [Term.eval, ht, hc, Option.bind_eq_bind, Option.bind_some] at h
  split at h
  · rename_i q; exact ⟨q, by simpa using h⟩
  · cases h
theorem own_sizeN {n : Nat} {k : Int32} (h : n < 2 ^ 31) (e : n.toInt32 = k) : n = k.toNatClampNeg := by
  have q : (n : Int) = k.toInt := by rw [← e]; exact (Int32.toInt_ofNat_of_lt h).symm
  show n = k.toInt.toNat
  omega
theorem own_exa_at {args : Array Value} {s : State} {idx : List Nat} {t : Term} {C : String} {b : Addr} (h : (Cond.exactly t C).value args s none s idx = some true) (e : t.eval args s none idx s = some (.ref b)) : Exa s s.heap b C := by
  obtain ⟨a', c', cell, k, e1, e2, e3, e4, e5, e6, e7⟩ := Cond.exactly_spec (show (Cond.exactly t C).holds args s none s idx = true from beq_iff_eq.mpr h)
  cases e.symm.trans e1
  exact ⟨cell, k, e3, by rw [e6]; exact e2, by rw [e6]; exact e4, e5, e7⟩
theorem own_index {args : Array Value} {s : State} {j : Int32} (h : ¬ j < 0) : (Term.index 0).eval args s none [j.toNatClampNeg] s = some (.int j) := by
  have q := back32 h
  simp [Term.eval, q.1, q.2]
theorem own_elR {args : Array Value} {s : State} {T t2 : Term} {a b : Addr} {cl : Cell} {ty : FieldType} {j : Int32} (A : Arr s s.heap a cl ty) (ha : T.eval args s none [] s = some (.ref a)) (hb : t2.eval args s none [] s = some (.ref b)) (h : (Cond.eq (.elem T (.int j)) t2).value args s none s [] = some true) : cl.slots[j.toNatClampNeg]? = some (.ref b) := by
  obtain ⟨x, y, e1, e2, k1, -⟩ := cmp_v (Or.inl h)
  cases hb.symm.trans e2
  obtain ⟨c', c1, -, c3⟩ := elem_at e1 ha rfl
  cases A.1.symm.trans c1
  rw [c3]
  have hx : x.isRef = true := by cases x <;> simp [Kin, Value.isRef] at k1 ⊢
  have q := gotT (eq_R e1 hb hx rfl) h
  rw [q]

theorem own_since0 (s : State) : s.Since s.vm 0 := ⟨State.Warmed39.refl s, fun j p hj hp => absurd (Array.getElem?_eq_some_iff.mp hp).1 (Nat.not_lt.mpr hj)⟩
theorem own_strW {Z : State} {ar0 : Array Value} (hw : ∀ d ∈ tables_1, d.before ar0 Z = true) : ∀ d ∈ Bundle.stringAtoms, d.before ar0 Z = true := fun d hd => hw d ((by decide +kernel : ∀ d ∈ Bundle.stringAtoms, d ∈ tables_1) d hd)
abbrev own_ch (p : Int32) : Int32 := nar .char ((p &&& (255 : Int32)).toUInt32.toUInt16.toUInt32.toInt32)
def own_c1 (k : Int32) : Int32 := nar .char (k.toUInt32.toUInt16.toUInt32.toInt32)
theorem own_small (n : Nat) (hn : n < 2 ^ 31) (x : Int32) (h0 : 0 ≤ x.toInt) (h1 : x.toInt < n) : ∃ k : Fin n, x = Int32.ofNat k := by
  refine ⟨⟨x.toInt.toNat, by omega⟩, ?_⟩
  apply Int32.toInt_inj.mp
  rw [Int32.toInt_ofNat_of_lt (by show x.toInt.toNat < 2 ^ 31; omega)]
  show x.toInt = (x.toInt.toNat : Int)
  omega
theorem own_256 (p : Int32) : ∃ k : Fin 256, p &&& (255 : Int32) = Int32.ofNat k := by
  have e1 : (p &&& 255).toInt = p.toInt % 2 ^ 8 := Jvm.Kit.i32_mask p 255 (k := 8) (by decide) (by decide)
  exact own_small 256 (by decide) _ (by omega) (by omega)
theorem own_all : ∀ k : Fin 256, own_c1 (Int32.ofNat k) = Int32.ofNat k ∧ Int32.ofNat k &&& (255 : Int32) = Int32.ofNat k ∧ ¬ Int32.ofNat k < 0 ∧ ¬ (255 : Int32) < Int32.ofNat k := by decide +kernel
theorem own_chv (p : Int32) : own_ch p = p &&& (255 : Int32) := by
  show own_c1 (p &&& (255 : Int32)) = _
  obtain ⟨k, e⟩ := own_256 p
  rw [e]; exact (own_all k).1
theorem own_mm (p : Int32) : (p &&& (255 : Int32)) &&& (255 : Int32) = p &&& (255 : Int32) := by
  obtain ⟨k, e⟩ := own_256 p
  rw [e]; exact (own_all k).2.1
theorem own_hp (p : Int32) : ∀ c ∈ ([(own_ch p)] : List Int32), ¬ c < 0 ∧ ¬ (255 : Int32) < c := by
  intro c hc
  cases List.mem_singleton.mp hc
  rw [own_chv]
  obtain ⟨k, e⟩ := own_256 p
  rw [e]; exact (own_all k).2.2
theorem own_hcd (p : Int32) : StrChars.Road.CodA ([(own_ch p)] : List Int32) 0 (1 : Int32) ((([(own_ch p)] : List Int32).map (fun c => c.toInt8.toInt32)).map Value.int) := StrChars.Road.codOf (n := 1) rfl (fun x hx => (own_hp p x hx).2)
theorem own_hbd (p : Int32) : ∀ c ∈ ([(own_ch p)] : List Int32), ¬ c < 0 ∧ ¬ (65535 : Int32) < c := own_up _ (own_hp p)
def own_eq (x y : Int32) : Int32 := if own_ch x = own_ch y then 1 else 0
theorem own_eqv {x y : Int32} {v : Option Value} (h : (v = some (.int 1) ∧ ([(own_ch x)] : List Int32) = [(own_ch y)]) ∨ (v = some (.int 0) ∧ ¬ ([(own_ch x)] : List Int32) = [(own_ch y)])) : v = some (.int (own_eq x y)) := by
  unfold own_eq
  rcases h with ⟨h, q⟩ | ⟨h, q⟩
  · rw [if_pos (List.cons.inj q).1]; exact h
  · rw [if_neg (fun z => q (by rw [z]))]; exact h
theorem own_neI {t : Term} {k : Int32} {args : Array Value} {s : State} {x : Int32} (ht : t.eval args s none [] s = some (.int x)) (h : (Cond.not (.eq t (.int k))).value args s none s [] = some true) : ¬ (x = k) := by
  have q := not_v h
  intro e
  simp [Cond.value, ht, Term.eval, e] at q

theorem pd_0 : parseMethodDescriptor "([C)V" = some ⟨[(.array .char)], none⟩ := by decide +kernel
theorem pn_0 : plainName "com/example/oversee/oversee/model/ActionEqualsPinLaw" = true := by first | (simp [plainName, overriddenIn]; done) | decide +kernel
theorem d1_0 : decode method_2_code 0 = .ok (.iconst 1, 1) := by decide +kernel
theorem d1_1 : decode method_2_code 1 = .ok (.newarray .char, 2) := by decide +kernel
theorem d1_3 : decode method_2_code 3 = .ok (.astore_n 1, 1) := by decide +kernel
theorem d1_4 : decode method_2_code 4 = .ok (.aload_n 1, 1) := by decide +kernel
theorem d1_5 : decode method_2_code 5 = .ok (.iconst 0, 1) := by decide +kernel
theorem d1_6 : decode method_2_code 6 = .ok (.iload_n 0, 1) := by decide +kernel
theorem d1_7 : decode method_2_code 7 = .ok (.sipush 255, 3) := by decide +kernel
theorem d1_10 : decode method_2_code 10 = .ok (.iand, 1) := by decide +kernel
theorem d1_11 : decode method_2_code 11 = .ok (.i2c, 1) := by decide +kernel
theorem d1_12 : decode method_2_code 12 = .ok (.castore, 1) := by decide +kernel
theorem d1_13 : decode method_2_code 13 = .ok (.new 7, 3) := by decide +kernel
theorem d1_16 : decode method_2_code 16 = .ok (.dup, 1) := by decide +kernel
theorem d1_17 : decode method_2_code 17 = .ok (.aload_n 1, 1) := by decide +kernel
theorem d1_18 : decode method_2_code 18 = .ok (.invokespecial 9, 3) := by decide +kernel
theorem d1_21 : decode method_2_code 21 = .ok (.areturn, 1) := by decide +kernel
theorem ef_1 (m : MethodId) (x0 : Int32) : entryFrame m #[(.int x0)] 2 = mkF m 0 #[.val (.int x0), .unset] [] := by first | (simp [entryFrame, mkF, argsToLocals, Value.category]; done) | rfl
def Q1 (Z : State) (p0 : Int32) (gc1 : Int32) (h0 : Heap) (n0 : Nat) (v : Option Value) (h : Heap) (L : List Loc) : Prop := ∃ (o : Addr) (t : Addr) (k_t : ClassId), v = some (.ref o) ∧ Fr n0 L ∧ Keep h0 h [] ∧ h0.size ≤ o ∧ Exa Z h o "java/lang/String" ∧ Fld Z h o "java/lang/String" "coder" "B" (.int (0 : Int32)) ∧ Fld Z h o "java/lang/String" "value" "[B" (.ref t) ∧ h0.size ≤ t ∧ Arv Z h t k_t .byte (1 : Int32) ((([(own_ch p0)] : List Int32).map (fun c => c.toInt8.toInt32)).map Value.int) (.int (0 : Int32))
set_option maxRecDepth 65536 in
set_option maxHeartbeats 40000000 in
theorem rm1 (l : Launch) (Z : State) (ar0 : Array Value) (hw : ∀ d ∈ tables_1, d.before ar0 Z = true) (ws : List Jvm.Cond) (p0 : Int32) (gc1 : Int32) (h0 : Heap) (n0 : Nat) (Z0 : n0 ≤ h0.size) (P5 : ¬ (gc1 = (0 : Int32))) (S_COMPACT_STRINGS : Sta Z h0 "java/lang/String" "COMPACT_STRINGS" "Z" (.int gc1)) :
    MetFree l (⟨"com/example/oversee/oversee/model/ActionEqualsPinLaw", "str", "(I)Ljava/lang/String;"⟩ : MethodName) (head1 (Jvm.Cond.code (⟨"com/example/oversee/oversee/model/ActionEqualsPinLaw", "str", "(I)Ljava/lang/String;"⟩ : MethodName) method_2_code 2 (some (.object "java/lang/String")) :: ws) ({ frames := 4, cells := 3, slots := 6, locals := 66 } : Room)) (fun a U => a = #[(.int p0)] ∧ Z.Warmed39 U.vm ∧ U.heap = h0) (fun _ _ _ _ _ => True) (fun _ U o U' => ∃ v L, o = .returned v ∧ Q1 Z p0 gc1 h0 n0 v U'.heap L ∧ FrameEnd U o U' L ({ frames := 4, cells := 3, slots := 6, locals := 66 } : Room).cells ({ frames := 4, cells := 3, slots := 6, locals := 66 } : Room).slots) := by
  refine MetFree.of_bodySF (plainFor_of_name pn_0) hisR ?_
  intro p e s m args below meth c s₁ Bd hml0 hP hK
  obtain ⟨rfl, hZ, hh⟩ := hP
  have hx := Bd.exec
  have hby := Bd.bytes
  have hml : c.maxLocals = 2 := hml0
  have hown : s.vm.findClass "com/example/oversee/oversee/model/ActionEqualsPinLaw" = some m.cls := by have q := findClass_of_methodNamed Bd.named; exact q
  have hnm := (name_of_methodNamed Bd.named Bd.method).1
  have X0 : Stand p l e ({ frames := 4, cells := 3, slots := 6, locals := 66 } : Room) s m #[(.int p0)] below meth c s₁ [] 0 0 := Stand.of_body Bd
  have e0 : s₁.heap = h0 := by rw [← hh, Bd.state]; rfl
  have N0 := Fr.nil n0
  have pre0 : ∀ t, Steps p.tables e below (s₁.setTop (mkF m 0 #[.val (.int p0), .unset] [])) t → Steps p.tables e below (s₁.setTop (entryFrame m #[(.int p0)] 2)) t := fun t k => castTop (ef_1 m p0) k
  have pre1 : ∀ t, Steps p.tables e below (s₁.setTop (mkF m 1 #[.val (.int p0), .unset] [(.int (1 : Int32))])) t → Steps p.tables e below (s₁.setTop (entryFrame m #[(.int p0)] 2)) t := by
    intro t k
    refine pre0 t ?_
    show Steps p.tables e below (s₁.setTop (mkF m 0 #[.val (.int p0), .unset] [])) _
    refine XS.iconst X0.here hx rfl (hb hby d1_0) ?_
    exact k
  obtain ⟨T2, h2, k2, X2, e2, E2, A2, C2, st2⟩ := newPE X0 hx hZ (hw _ (List.mem_of_getElem? (i := 7) rfl)) e0 (g := (mkF m 1 #[.val (.int p0), .unset] [(.int (1 : Int32))])) rfl (hb hby d1_1) rfl (by decide) (cap := 1) (by decide) (by decide) (by decide) (by decide) (ad := "[C") rfl
  obtain ⟨b2, g2⟩ : ∃ z, z = h0.size := ⟨_, rfl⟩
  rw [← g2] at A2 C2 st2
  have g_b2 : n0 ≤ b2 := Nat.le_trans Z0 (Nat.le_of_eq g2.symm)
  have sz_b2 : h0.size ≤ b2 := Nat.le_trans (Keep.refl h0 []).1 (Nat.le_of_eq g2.symm)
  have Z2 : n0 ≤ h2.size := Nat.le_trans Z0 E2.1
  have K2 : Keep h0 h2 [] := (Keep.refl h0 []).ext E2
  have Sf3 : Sta Z h2 "java/lang/String" "COMPACT_STRINGS" "Z" (.int gc1) := (S_COMPACT_STRINGS).ext E2
  have V_b2 : Arv Z h2 b2 k2 .char (1 : Int32) [(.int (0 : Int32))] (.int (0 : Int32)) := (Arv.new A2 (by decide)).pad (pad_rep [] (.int (0 : Int32)) 1)
  have pre4 : ∀ t, Steps p.tables e below (T2.setTop (mkF m 3 #[.val (.int p0), .unset] [(.ref b2)])) t → Steps p.tables e below (s₁.setTop (entryFrame m #[(.int p0)] 2)) t := fun t k => pre1 t (st2 t k)
  have pre5 : ∀ t, Steps p.tables e below (T2.setTop (mkF m 12 #[.val (.int p0), .val (.ref b2)] [(.int ((p0 &&& (255 : Int32)).toUInt32.toUInt16.toUInt32.toInt32)), (.int (0 : Int32)), (.ref b2)])) t → Steps p.tables e below (s₁.setTop (entryFrame m #[(.int p0)] 2)) t := by
    intro t k
    refine pre4 t ?_
    show Steps p.tables e below (T2.setTop (mkF m 3 #[.val (.int p0), .unset] [(.ref b2)])) _
    refine XS.astoreN X2.here hx rfl (hb hby d1_3) rfl rfl (l' := #[.val (.int p0), .val (.ref b2)]) rfl ?_
    refine XS.aloadN X2.here hx rfl (hb hby d1_4) rfl rfl ?_
    refine XS.iconst X2.here hx rfl (hb hby d1_5) ?_
    refine XS.iloadN X2.here hx rfl (hb hby d1_6) rfl ?_
    refine XS.sipush X2.here hx rfl (hb hby d1_7) ?_
    refine XS.iand X2.here hx rfl (hb hby d1_10) rfl ?_
    refine XS.i2c X2.here hx rfl (hb hby d1_11) rfl ?_
    exact k
  obtain ⟨cl6, Ar6, q6, S6, M6, H6, G6⟩ := id V_b2
  have hin6 : ¬ ((0 : Int32) < 0 ∨ cl6.slots.size ≤ ((0 : Int32)).toNatClampNeg) := inb_of S6 ⟨by decide, by decide⟩
  obtain ⟨T6, h6, X6, e6, W6, st6⟩ := stC X2 hx hZ e2 Ar6 (j := (0 : Int32)) hin6 (g := (mkF m 12 #[.val (.int p0), .val (.ref b2)] [(.int ((p0 &&& (255 : Int32)).toUInt32.toUInt16.toUInt32.toInt32)), (.int (0 : Int32)), (.ref b2)])) rfl rfl (hb hby d1_12)
  have Z6 : n0 ≤ h6.size := Nat.le_trans Z2 (Keep.of_wr W6).1
  have K6 : Keep h0 h6 [] := K2.wr W6 (Or.inr sz_b2)
  have N6 := Fr.snoc X6 N0 g_b2
  have Sf7 : Sta Z h6 "java/lang/String" "COMPACT_STRINGS" "Z" (.int gc1) := (Sf3).wr W6
  have Ef8 : Exa Z h6 b2 "[C" := (C2).wr W6
  have V6 : Arv Z h6 b2 k2 .char (1 : Int32) [(.int (own_ch p0))] (.int (0 : Int32)) := Arv.set Ar6 q6 S6 M6 H6 G6 (fits_nar_char _) W6 0 rfl (Nat.le_of_ble_eq_true rfl)
  have pre9 : ∀ t, Steps p.tables e below (T6.setTop (mkF m 13 #[.val (.int p0), .val (.ref b2)] [])) t → Steps p.tables e below (s₁.setTop (entryFrame m #[(.int p0)] 2)) t := fun t k => pre5 t (st6 t k)
  obtain ⟨T10, h10, X10, e10, E10, A10, D10, -, st10⟩ := newO X6 hx hZ hown (hw _ (List.mem_of_getElem? (i := 8) rfl)) (hw _ (List.mem_of_getElem? (i := 9) rfl)) (hw _ (List.mem_of_getElem? (i := 10) rfl)) e6 (g := (mkF m 13 #[.val (.int p0), .val (.ref b2)] [])) rfl (hb hby d1_13) (by decide) (by decide)
  obtain ⟨b10, g10⟩ : ∃ z, z = h6.size := ⟨_, rfl⟩
  rw [← g10] at A10 D10 st10
  have ne_b2_b10 : b2 ≠ b10 := Nat.ne_of_lt (Nat.lt_of_lt_of_le (Ef8).lt (Nat.le_of_eq g10.symm))
  have g_b10 : n0 ≤ b10 := Nat.le_trans Z6 (Nat.le_of_eq g10.symm)
  have sz_b10 : h0.size ≤ b10 := Nat.le_trans K6.1 (Nat.le_of_eq g10.symm)
  have Z10 : n0 ≤ h10.size := Nat.le_trans Z6 E10.1
  have K10 : Keep h0 h10 [] := K6.ext E10
  have Sf11 : Sta Z h10 "java/lang/String" "COMPACT_STRINGS" "Z" (.int gc1) := (Sf7).ext E10
  have Ef12 : Exa Z h10 b2 "[C" := (Ef8).ext E10
  have Vf13 : Arv Z h10 b2 k2 .char (1 : Int32) [(.int (own_ch p0))] (.int (0 : Int32)) := (V6).ext E10
  have Fcoder_b10 : Fld Z h10 b10 "java/lang/String" "coder" "B" (.int (0 : Int32)) := D10 (Or.inr (hw _ (List.mem_of_getElem? (i := 34) rfl))) (ty := .byte) (by decide)
  have Fvalue_b10 : Fld Z h10 b10 "java/lang/String" "value" "[B" .null := D10 (Or.inr (hw _ (List.mem_of_getElem? (i := 36) rfl))) (ty := (.array .byte)) (by decide)
  have pre14 : ∀ t, Steps p.tables e below (T10.setTop (mkF m 16 #[.val (.int p0), .val (.ref b2)] [(.ref b10)])) t → Steps p.tables e below (s₁.setTop (entryFrame m #[(.int p0)] 2)) t := fun t k => pre9 t (st10 t k)
  have pre15 : ∀ t, Steps p.tables e below (T10.setTop (mkF m 18 #[.val (.int p0), .val (.ref b2)] [(.ref b2), (.ref b10), (.ref b10)])) t → Steps p.tables e below (s₁.setTop (entryFrame m #[(.int p0)] 2)) t := by
    intro t k
    refine pre14 t ?_
    show Steps p.tables e below (T10.setTop (mkF m 16 #[.val (.int p0), .val (.ref b2)] [(.ref b10)])) _
    refine XS.dup X10.here hx rfl (hb hby d1_16) rfl rfl ?_
    refine XS.aloadN X10.here hx rfl (hb hby d1_17) rfl rfl ?_
    exact k
  have hp17 : ∀ c ∈ ([(own_ch p0)] : List Int32), ¬ c < 0 ∧ ¬ (255 : Int32) < c := own_hp p0
  obtain ⟨_, _, ⟨T16, L16, k16, n16⟩, -, X16, ⟨Lc16, hQ16, l16, y16, z16⟩, st16⟩ := X10.specialBack hx (y := (⟨"java/lang/String", "<init>", "([C)V"⟩ : MethodName)) rfl hown (mvT hZ (hw _ (List.mem_of_getElem? (i := 11) rfl))) (mvT hZ (hw _ (List.mem_of_getElem? (i := 12) rfl))) (mvT hZ (hw _ (List.mem_of_getElem? (i := 13) rfl))) (by decide) (StrChars.Road.backV (W := 1) hZ (own_words hw) (kI := 4) (hw _ (List.mem_of_getElem? (i := 9) rfl)) (cs := ([(own_ch p0)] : List Int32)) (bs := (([(own_ch p0)] : List Int32)).map (fun c => c.toInt8.toInt32)) (n := 1) g_b10 Z10 A10 Fvalue_b10 Fcoder_b10 Vf13 Sf11 P5 rfl rfl (by decide) (by decide) hp17 rfl (by decide) (by decide)) (g := (mkF m 18 #[.val (.int p0), .val (.ref b2)] [(.ref b2), (.ref b10), (.ref b10)])) rfl (by rw [hml]; rfl) (Steps.refl _) (a := b10) (argsL := [(.ref b2)]) (rest := [(.ref b10)]) (lenOf pd_0 rfl) rfl (by show 2 * 0 + _ ≤ _; exact Nat.le_of_eq rfl) (hb hby d1_18) (fun _ _ => ⟨rfl, e10, (by decide : 2 + 1 ≤ _), (by decide : 5 + 1 ≤ _)⟩)
  dsimp only [Pt.U, Pt.locs, Pt.cells, Pt.slots] at X16 l16 y16 z16 st16 hQ16
  subst l16 y16 z16
  obtain ⟨h16, e16⟩ : ∃ h, T16.heap = h := ⟨_, rfl⟩
  rw [e16] at hQ16
  obtain ⟨rfl, N16q, K16q, QE16, QC16, t16, kt16, g_t16, y_t16, ne16, QV16, QB16⟩ := hQ16
  have N16 := Fr.app N6 N16q
  have ne_b2_t16 : b2 ≠ t16 := Nat.ne_of_lt (Nat.lt_of_lt_of_le (Ef12).lt y_t16)
  have ne_b10_t16 : b10 ≠ t16 := Nat.ne_of_lt (Nat.lt_of_lt_of_le (A10).lt y_t16)
  have sz_t16 : h0.size ≤ t16 := Nat.le_trans K10.1 y_t16
  have Z16 : n0 ≤ h16.size := Nat.le_trans Z10 K16q.1
  have K16 : Keep h0 h16 [] := K10.trans K16q (fun x hx => by cases List.mem_singleton.mp hx; exact Or.inr sz_b10)
  have Sf18 : Sta Z h16 "java/lang/String" "COMPACT_STRINGS" "Z" (.int gc1) := own_sta_keep Sf11 K16q (own_ns1 (own_ns_exa A10))
  have Ef19 : Exa Z h16 b2 "[C" := (Ef12).keep K16q
  have Vf20 : Arv Z h16 b2 k2 .char (1 : Int32) [(.int (own_ch p0))] (.int (0 : Int32)) := (Vf13).keep K16q (fun q => absurd (List.mem_singleton.mp q) ne_b2_b10)
  have hcd16 : StrChars.Road.CodA ([(own_ch p0)] : List Int32) 0 (1 : Int32) ((([(own_ch p0)] : List Int32).map (fun c => c.toInt8.toInt32)).map Value.int) := StrChars.Road.codOf (n := 1) rfl (fun x hx => (hp17 x hx).2)
  have hbd16 := own_up _ hp17
  have pre21 : ∀ t, Steps p.tables e below (T16.setTop (mkF m 21 #[.val (.int p0), .val (.ref b2)] [(.ref b10)])) t → Steps p.tables e below (s₁.setTop (entryFrame m #[(.int p0)] 2)) t := fun t k => pre15 t (st16.trans k)
  obtain ⟨fs, hr, hrun, hended, hW, hsame⟩ := X16.leave (v := some (.ref b10)) (fun h => by rw [Bd.returns] at h; cases h)
  refine ⟨_, _, pre21 _ ?_, hrun, hended, _, _, rfl, ?_, ⟨_, rfl⟩, hW, hsame.mono (by decide) (by decide)⟩
  · show Steps p.tables e below (T16.setTop (mkF m 21 #[.val (.int p0), .val (.ref b2)] [(.ref b10)])) _
    exact retOut X16 hx Bd.returns rfl (Or.inr (Or.inr (Or.inr (Or.inr ⟨rfl, rfl, rfl⟩)))) (hb hby d1_21) hr
  · show Q1 Z p0 gc1 h0 n0 _ T16.heap _
    rw [e16]
    exact ⟨b10, t16, kt16, rfl, N16, K16, sz_b10, QE16, QC16, QV16, sz_t16, QB16⟩
theorem d8_0 : decode method_3_code 0 = .ok (.iload_n 0, 1) := by decide +kernel
theorem d8_1 : decode method_3_code 1 = .ok (.iconst 1, 1) := by decide +kernel
theorem d8_2 : decode method_3_code 2 = .ok (.iand, 1) := by decide +kernel
theorem d8_3 : decode method_3_code 3 = .ok (.ifCond .eq 9, 3) := by decide +kernel
theorem d8_6 : decode method_3_code 6 = .ok (.getstatic 12, 3) := by decide +kernel
theorem d8_9 : decode method_3_code 9 = .ok (.goto 6, 3) := by decide +kernel
theorem d8_12 : decode method_3_code 12 = .ok (.getstatic 18, 3) := by decide +kernel
theorem d8_15 : decode method_3_code 15 = .ok (.areturn, 1) := by decide +kernel
theorem ef_8 (m : MethodId) (x0 : Int32) : entryFrame m #[(.int x0)] 1 = mkF m 0 #[.val (.int x0)] [] := by first | (simp [entryFrame, mkF, argsToLocals, Value.category]; done) | rfl
def f8 (p0 : Int32) (s_RECEIVE : Addr) (s_SEND : Addr) : Addr := (if (p0 &&& (1 : Int32)) = (0 : Int32) then s_RECEIVE else s_SEND)
def Q8 (Z : State) (p0 : Int32) (s_RECEIVE : Addr) (s_SEND : Addr) (h0 : Heap) (n0 : Nat) (v : Option Value) (h : Heap) (L : List Loc) : Prop := v = some (.ref (f8 p0 s_RECEIVE s_SEND)) ∧ Fr n0 L ∧ h = h0
set_option maxRecDepth 65536 in
set_option maxHeartbeats 40000000 in
theorem rm8 (l : Launch) (Z : State) (ar0 : Array Value) (hw : ∀ d ∈ tables_1, d.before ar0 Z = true) (ws : List Jvm.Cond) (p0 : Int32) (s_RECEIVE : Addr) (s_SEND : Addr) (h0 : Heap) (n0 : Nat) (Z0 : n0 ≤ h0.size) (S_RECEIVE : Sta Z h0 "com/example/oversee/oversee/model/Direction" "RECEIVE" "Lcom/example/oversee/oversee/model/Direction;" (.ref s_RECEIVE)) (S_SEND : Sta Z h0 "com/example/oversee/oversee/model/Direction" "SEND" "Lcom/example/oversee/oversee/model/Direction;" (.ref s_SEND)) :
    MetFree l (⟨"com/example/oversee/oversee/model/ActionEqualsPinLaw", "dir", "(I)Lcom/example/oversee/oversee/model/Direction;"⟩ : MethodName) (head1 (Jvm.Cond.code (⟨"com/example/oversee/oversee/model/ActionEqualsPinLaw", "dir", "(I)Lcom/example/oversee/oversee/model/Direction;"⟩ : MethodName) method_3_code 1 (some (.object "com/example/oversee/oversee/model/Direction")) :: ws) ({ frames := 0, cells := 0, slots := 0, locals := 0 } : Room)) (fun a U => a = #[(.int p0)] ∧ Z.Warmed39 U.vm ∧ U.heap = h0) (fun _ _ _ _ _ => True) (fun _ U o U' => ∃ v L, o = .returned v ∧ Q8 Z p0 s_RECEIVE s_SEND h0 n0 v U'.heap L ∧ FrameEnd U o U' L ({ frames := 0, cells := 0, slots := 0, locals := 0 } : Room).cells ({ frames := 0, cells := 0, slots := 0, locals := 0 } : Room).slots) := by
  refine MetFree.of_bodySF (plainFor_of_name pn_0) hisR ?_
  intro p e s m args below meth c s₁ Bd hml0 hP hK
  obtain ⟨rfl, hZ, hh⟩ := hP
  have hx := Bd.exec
  have hby := Bd.bytes
  have hml : c.maxLocals = 1 := hml0
  have hown : s.vm.findClass "com/example/oversee/oversee/model/ActionEqualsPinLaw" = some m.cls := by have q := findClass_of_methodNamed Bd.named; exact q
  have hnm := (name_of_methodNamed Bd.named Bd.method).1
  have X0 : Stand p l e ({ frames := 0, cells := 0, slots := 0, locals := 0 } : Room) s m #[(.int p0)] below meth c s₁ [] 0 0 := Stand.of_body Bd
  have e0 : s₁.heap = h0 := by rw [← hh, Bd.state]; rfl
  have N0 := Fr.nil n0
  have pre0 : ∀ t, Steps p.tables e below (s₁.setTop (mkF m 0 #[.val (.int p0)] [])) t → Steps p.tables e below (s₁.setTop (entryFrame m #[(.int p0)] 1)) t := fun t k => castTop (ef_8 m p0) k
  have pre22 : ∀ t, Steps p.tables e below (s₁.setTop (mkF m 3 #[.val (.int p0)] [(.int (p0 &&& (1 : Int32)))])) t → Steps p.tables e below (s₁.setTop (entryFrame m #[(.int p0)] 1)) t := by
    intro t k
    refine pre0 t ?_
    show Steps p.tables e below (s₁.setTop (mkF m 0 #[.val (.int p0)] [])) _
    refine XS.iloadN X0.here hx rfl (hb hby d8_0) rfl ?_
    refine XS.iconst X0.here hx rfl (hb hby d8_1) ?_
    refine XS.iand X0.here hx rfl (hb hby d8_2) rfl ?_
    exact k
  by_cases hc3_23 : (p0 &&& (1 : Int32)) = (0 : Int32)
  · have pre24 : ∀ t, Steps p.tables e below (s₁.setTop (mkF m 12 #[.val (.int p0)] [])) t → Steps p.tables e below (s₁.setTop (entryFrame m #[(.int p0)] 1)) t := by
      intro t k
      refine pre22 t ?_
      show Steps p.tables e below (s₁.setTop (mkF m 3 #[.val (.int p0)] [(.int (p0 &&& (1 : Int32)))])) _
      refine XS.ifYes X0.here hx rfl (pc0 := 3) (pc' := 12) rfl (hb hby d8_3) rfl ((if0 _ _).trans (teq hc3_23).1) (by decide) (by decide) ?_
      exact k
    obtain ⟨T25, X25, e25, st25⟩ := getS2 X0 hx hZ hown (host := "") (Or.inl (hw _ (List.mem_of_getElem? (i := 40) rfl))) Via.refl e0 S_RECEIVE (g := (mkF m 12 #[.val (.int p0)] [])) rfl (hb hby d8_12)
    have pre26 : ∀ t, Steps p.tables e below (T25.setTop (mkF m 15 #[.val (.int p0)] [(.ref s_RECEIVE)])) t → Steps p.tables e below (s₁.setTop (entryFrame m #[(.int p0)] 1)) t := fun t k => pre24 t (st25 t k)
    obtain ⟨fs, hr, hrun, hended, hW, hsame⟩ := X25.leave (v := some (.ref s_RECEIVE)) (fun h => by rw [Bd.returns] at h; cases h)
    refine ⟨_, _, pre26 _ ?_, hrun, hended, _, _, rfl, ?_, ⟨_, rfl⟩, hW, hsame.mono (by decide) (by decide)⟩
    · show Steps p.tables e below (T25.setTop (mkF m 15 #[.val (.int p0)] [(.ref s_RECEIVE)])) _
      exact retOut X25 hx Bd.returns rfl (Or.inr (Or.inr (Or.inr (Or.inr ⟨rfl, rfl, rfl⟩)))) (hb hby d8_15) hr
    · show Q8 Z p0 s_RECEIVE s_SEND h0 n0 _ T25.heap _
      rw [e25]
      exact ⟨by unfold f8; rw [if_pos hc3_23], N0, rfl⟩
  · have pre27 : ∀ t, Steps p.tables e below (s₁.setTop (mkF m 6 #[.val (.int p0)] [])) t → Steps p.tables e below (s₁.setTop (entryFrame m #[(.int p0)] 1)) t := by
      intro t k
      refine pre22 t ?_
      show Steps p.tables e below (s₁.setTop (mkF m 3 #[.val (.int p0)] [(.int (p0 &&& (1 : Int32)))])) _
      refine XS.ifNo X0.here hx rfl (hb hby d8_3) rfl ((if0 _ _).trans (feq hc3_23).1) ?_
      exact k
    obtain ⟨T28, X28, e28, st28⟩ := getS2 X0 hx hZ hown (host := "") (Or.inl (hw _ (List.mem_of_getElem? (i := 85) rfl))) Via.refl e0 S_SEND (g := (mkF m 6 #[.val (.int p0)] [])) rfl (hb hby d8_6)
    have pre29 : ∀ t, Steps p.tables e below (T28.setTop (mkF m 9 #[.val (.int p0)] [(.ref s_SEND)])) t → Steps p.tables e below (s₁.setTop (entryFrame m #[(.int p0)] 1)) t := fun t k => pre27 t (st28 t k)
    obtain ⟨fs, hr, hrun, hended, hW, hsame⟩ := X28.leave (v := some (.ref s_SEND)) (fun h => by rw [Bd.returns] at h; cases h)
    refine ⟨_, _, pre29 _ ?_, hrun, hended, _, _, rfl, ?_, ⟨_, rfl⟩, hW, hsame.mono (by decide) (by decide)⟩
    · show Steps p.tables e below (T28.setTop (mkF m 9 #[.val (.int p0)] [(.ref s_SEND)])) _
      refine XS.goto X28.here hx rfl (pc0 := 9) (pc' := 15) rfl (hb hby d8_9) (by decide) (by decide) ?_
      exact retOut X28 hx Bd.returns rfl (Or.inr (Or.inr (Or.inr (Or.inr ⟨rfl, rfl, rfl⟩)))) (hb hby d8_15) hr
    · show Q8 Z p0 s_RECEIVE s_SEND h0 n0 _ T28.heap _
      rw [e28]
      exact ⟨by unfold f8; rw [if_neg hc3_23], N0, rfl⟩
theorem own_dirE {Z : State} {h : Heap} {C : String} {s_SEND s_RECEIVE : Addr} (p0 : Int32) (A : Exa Z h s_SEND C) (B : Exa Z h s_RECEIVE C) : Exa Z h (f8 p0 s_RECEIVE s_SEND) C := by
  unfold f8; split <;> first | exact A | exact B
theorem pn_1 : plainName "java/util/Objects" = true := by first | (simp [plainName, overriddenIn]; done) | decide +kernel
theorem d10_0 : decode jdk_31_method_11_code 0 = .ok (.aload_n 0, 1) := by decide +kernel
theorem d10_1 : decode jdk_31_method_11_code 1 = .ok (.ifnonnull 12, 3) := by decide +kernel
theorem d10_13 : decode jdk_31_method_11_code 13 = .ok (.aload_n 0, 1) := by decide +kernel
theorem d10_14 : decode jdk_31_method_11_code 14 = .ok (.areturn, 1) := by decide +kernel
theorem ef_10 (m : MethodId) (x0 : Addr) (x1 : Addr) : entryFrame m #[(.ref x0), (.ref x1)] 2 = mkF m 0 #[.val (.ref x0), .val (.ref x1)] [] := by first | (simp [entryFrame, mkF, argsToLocals, Value.category]; done) | rfl
def Q10 (Z : State) (a0 : Addr) (a1 : Addr) (h0 : Heap) (n0 : Nat) (v : Option Value) (h : Heap) (L : List Loc) : Prop := v = some (.ref a0) ∧ Fr n0 L ∧ h = h0
set_option maxRecDepth 65536 in
set_option maxHeartbeats 40000000 in
theorem rm10 (l : Launch) (Z : State) (ar0 : Array Value) (hw : ∀ d ∈ tables_1, d.before ar0 Z = true) (ws : List Jvm.Cond) (a0 : Addr) (a1 : Addr) (h0 : Heap) (n0 : Nat) (Z0 : n0 ≤ h0.size) :
    MetFree l (⟨"java/util/Objects", "requireNonNull", "(Ljava/lang/Object;Ljava/lang/String;)Ljava/lang/Object;"⟩ : MethodName) (head1 (Jvm.Cond.code (⟨"java/util/Objects", "requireNonNull", "(Ljava/lang/Object;Ljava/lang/String;)Ljava/lang/Object;"⟩ : MethodName) jdk_31_method_11_code 2 (some (.object "java/lang/Object")) :: ws) ({ frames := 0, cells := 0, slots := 0, locals := 0 } : Room)) (fun a U => a = #[(.ref a0), (.ref a1)] ∧ Z.Warmed39 U.vm ∧ U.heap = h0) (fun _ _ _ _ _ => True) (fun _ U o U' => ∃ v L, o = .returned v ∧ Q10 Z a0 a1 h0 n0 v U'.heap L ∧ FrameEnd U o U' L ({ frames := 0, cells := 0, slots := 0, locals := 0 } : Room).cells ({ frames := 0, cells := 0, slots := 0, locals := 0 } : Room).slots) := by
  refine MetFree.of_bodySF (plainFor_of_name pn_1) hisR ?_
  intro p e s m args below meth c s₁ Bd hml0 hP hK
  obtain ⟨rfl, hZ, hh⟩ := hP
  have hx := Bd.exec
  have hby := Bd.bytes
  have hml : c.maxLocals = 2 := hml0
  have hown : s.vm.findClass "java/util/Objects" = some m.cls := by have q := findClass_of_methodNamed Bd.named; exact q
  have hnm := (name_of_methodNamed Bd.named Bd.method).1
  have X0 : Stand p l e ({ frames := 0, cells := 0, slots := 0, locals := 0 } : Room) s m #[(.ref a0), (.ref a1)] below meth c s₁ [] 0 0 := Stand.of_body Bd
  have e0 : s₁.heap = h0 := by rw [← hh, Bd.state]; rfl
  have N0 := Fr.nil n0
  have pre0 : ∀ t, Steps p.tables e below (s₁.setTop (mkF m 0 #[.val (.ref a0), .val (.ref a1)] [])) t → Steps p.tables e below (s₁.setTop (entryFrame m #[(.ref a0), (.ref a1)] 2)) t := fun t k => castTop (ef_10 m a0 a1) k
  obtain ⟨fs, hr, hrun, hended, hW, hsame⟩ := X0.leave (v := some (.ref a0)) (fun h => by rw [Bd.returns] at h; cases h)
  refine ⟨_, _, pre0 _ ?_, hrun, hended, _, _, rfl, ?_, ⟨_, rfl⟩, hW, hsame.mono (by decide) (by decide)⟩
  · show Steps p.tables e below (s₁.setTop (mkF m 0 #[.val (.ref a0), .val (.ref a1)] [])) _
    refine XS.aloadN X0.here hx rfl (hb hby d10_0) rfl rfl ?_
    refine XS.ifnonnullYes X0.here hx rfl (pc0 := 1) (pc' := 13) rfl (hb hby d10_1) rfl (by decide) (by decide) ?_
    refine XS.aloadN X0.here hx rfl (hb hby d10_13) rfl rfl ?_
    exact retOut X0 hx Bd.returns rfl (Or.inr (Or.inr (Or.inr (Or.inr ⟨rfl, rfl, rfl⟩)))) (hb hby d10_14) hr
  · show Q10 Z a0 a1 h0 n0 _ s₁.heap _
    rw [e0]
    exact ⟨rfl, N0, rfl⟩
theorem pd_1 : parseMethodDescriptor "(Ljava/lang/Object;Ljava/lang/String;)Ljava/lang/Object;" = some ⟨[(.object "java/lang/Object"), (.object "java/lang/String")], some (.object "java/lang/Object")⟩ := by decide +kernel
theorem pn_2 : plainName "com/example/oversee/oversee/model/Action" = true := by first | (simp [plainName, overriddenIn]; done) | decide +kernel
theorem d9_0 : decode prog_16_method_1_code 0 = .ok (.aload_n 0, 1) := by decide +kernel
theorem d9_1 : decode prog_16_method_1_code 1 = .ok (.invokespecial 1, 3) := by decide +kernel
theorem d9_4 : decode prog_16_method_1_code 4 = .ok (.aload_n 0, 1) := by decide +kernel
theorem d9_5 : decode prog_16_method_1_code 5 = .ok (.aload_n 1, 1) := by decide +kernel
theorem d9_6 : decode prog_16_method_1_code 6 = .ok (.ldc 7, 2) := by decide +kernel
theorem d9_8 : decode prog_16_method_1_code 8 = .ok (.invokestatic 9, 3) := by decide +kernel
theorem d9_11 : decode prog_16_method_1_code 11 = .ok (.checkcast 15, 3) := by decide +kernel
theorem d9_14 : decode prog_16_method_1_code 14 = .ok (.putfield 17, 3) := by decide +kernel
theorem d9_17 : decode prog_16_method_1_code 17 = .ok (.aload_n 0, 1) := by decide +kernel
theorem d9_18 : decode prog_16_method_1_code 18 = .ok (.aload_n 2, 1) := by decide +kernel
theorem d9_19 : decode prog_16_method_1_code 19 = .ok (.ldc 22, 2) := by decide +kernel
theorem d9_21 : decode prog_16_method_1_code 21 = .ok (.invokestatic 9, 3) := by decide +kernel
theorem d9_24 : decode prog_16_method_1_code 24 = .ok (.checkcast 15, 3) := by decide +kernel
theorem d9_27 : decode prog_16_method_1_code 27 = .ok (.putfield 24, 3) := by decide +kernel
theorem d9_30 : decode prog_16_method_1_code 30 = .ok (.aload_n 0, 1) := by decide +kernel
theorem d9_31 : decode prog_16_method_1_code 31 = .ok (.aload_n 3, 1) := by decide +kernel
theorem d9_32 : decode prog_16_method_1_code 32 = .ok (.ldc 26, 2) := by decide +kernel
theorem d9_34 : decode prog_16_method_1_code 34 = .ok (.invokestatic 9, 3) := by decide +kernel
theorem d9_37 : decode prog_16_method_1_code 37 = .ok (.checkcast 28, 3) := by decide +kernel
theorem d9_40 : decode prog_16_method_1_code 40 = .ok (.putfield 30, 3) := by decide +kernel
theorem d9_43 : decode prog_16_method_1_code 43 = .ok (.aload_n 0, 1) := by decide +kernel
theorem d9_44 : decode prog_16_method_1_code 44 = .ok (.aload 4, 2) := by decide +kernel
theorem d9_46 : decode prog_16_method_1_code 46 = .ok (.ldc 33, 2) := by decide +kernel
theorem d9_48 : decode prog_16_method_1_code 48 = .ok (.invokestatic 9, 3) := by decide +kernel
theorem d9_51 : decode prog_16_method_1_code 51 = .ok (.checkcast 15, 3) := by decide +kernel
theorem d9_54 : decode prog_16_method_1_code 54 = .ok (.putfield 35, 3) := by decide +kernel
theorem d9_57 : decode prog_16_method_1_code 57 = .ok (.return_, 1) := by decide +kernel
theorem ef_9 (m : MethodId) (x0 : Addr) (x1 : Addr) (x2 : Addr) (x3 : Addr) (x4 : Addr) : entryFrame m #[(.ref x0), (.ref x1), (.ref x2), (.ref x3), (.ref x4)] 5 = mkF m 0 #[.val (.ref x0), .val (.ref x1), .val (.ref x2), .val (.ref x3), .val (.ref x4)] [] := by first | (simp [entryFrame, mkF, argsToLocals, Value.category]; done) | rfl
def Q9 (Z : State) (a0 : Addr) (a1 : Addr) (a2 : Addr) (a3 : Addr) (a4 : Addr) (w_sender_a0 : Value) (w_receiver_a0 : Value) (w_direction_a0 : Value) (w_message_a0 : Value) (h0 : Heap) (n0 : Nat) (v : Option Value) (h : Heap) (L : List Loc) : Prop := v = none ∧ Fr n0 L ∧ Keep h0 h [a0] ∧ Exa Z h a0 "com/example/oversee/oversee/model/Action" ∧ Fld Z h a0 "com/example/oversee/oversee/model/Action" "sender" "Ljava/lang/String;" (.ref a1) ∧ Fld Z h a0 "com/example/oversee/oversee/model/Action" "receiver" "Ljava/lang/String;" (.ref a2) ∧ Fld Z h a0 "com/example/oversee/oversee/model/Action" "direction" "Lcom/example/oversee/oversee/model/Direction;" (.ref a3) ∧ Fld Z h a0 "com/example/oversee/oversee/model/Action" "message" "Ljava/lang/String;" (.ref a4)
set_option maxRecDepth 65536 in
set_option maxHeartbeats 40000000 in
theorem rm9 (l : Launch) (Z : State) (ar0 : Array Value) (hw : ∀ d ∈ tables_1, d.before ar0 Z = true) (ws : List Jvm.Cond) (a0 : Addr) (a1 : Addr) (a2 : Addr) (a3 : Addr) (a4 : Addr) (w_sender_a0 : Value) (w_receiver_a0 : Value) (w_direction_a0 : Value) (w_message_a0 : Value) (h0 : Heap) (n0 : Nat) (Z0 : n0 ≤ h0.size) (E_a1 : Exa Z h0 a1 "java/lang/String") (E_a0 : Exa Z h0 a0 "com/example/oversee/oversee/model/Action") (E_a2 : Exa Z h0 a2 "java/lang/String") (E_a3 : Exa Z h0 a3 "com/example/oversee/oversee/model/Direction") (E_a4 : Exa Z h0 a4 "java/lang/String") (F_sender_a0 : Fld Z h0 a0 "com/example/oversee/oversee/model/Action" "sender" "Ljava/lang/String;" w_sender_a0) (F_receiver_a0 : Fld Z h0 a0 "com/example/oversee/oversee/model/Action" "receiver" "Ljava/lang/String;" w_receiver_a0) (F_direction_a0 : Fld Z h0 a0 "com/example/oversee/oversee/model/Action" "direction" "Lcom/example/oversee/oversee/model/Direction;" w_direction_a0) (F_message_a0 : Fld Z h0 a0 "com/example/oversee/oversee/model/Action" "message" "Ljava/lang/String;" w_message_a0) (g_a0 : n0 ≤ a0) :
    MetFree l (⟨"com/example/oversee/oversee/model/Action", "<init>", "(Ljava/lang/String;Ljava/lang/String;Lcom/example/oversee/oversee/model/Direction;Ljava/lang/String;)V"⟩ : MethodName) (head1 (Jvm.Cond.code (⟨"com/example/oversee/oversee/model/Action", "<init>", "(Ljava/lang/String;Ljava/lang/String;Lcom/example/oversee/oversee/model/Direction;Ljava/lang/String;)V"⟩ : MethodName) prog_16_method_1_code 5 none :: ws) ({ frames := 1, cells := 8, slots := 136, locals := 14 } : Room)) (fun a U => a = #[(.ref a0), (.ref a1), (.ref a2), (.ref a3), (.ref a4)] ∧ Z.Warmed39 U.vm ∧ U.heap = h0) (fun _ _ _ _ _ => True) (fun _ U o U' => ∃ v L, o = .returned v ∧ Q9 Z a0 a1 a2 a3 a4 w_sender_a0 w_receiver_a0 w_direction_a0 w_message_a0 h0 n0 v U'.heap L ∧ ReturnedEndW U o U' L ({ frames := 1, cells := 8, slots := 136, locals := 14 } : Room).cells ({ frames := 1, cells := 8, slots := 136, locals := 14 } : Room).slots) := by
  refine MetFree.of_bodySF (plainFor_of_name pn_2) hisR ?_
  intro p e s m args below meth c s₁ Bd hml0 hP hK
  obtain ⟨rfl, hZ, hh⟩ := hP
  have hx := Bd.exec
  have hby := Bd.bytes
  have hml : c.maxLocals = 5 := hml0
  have hown : s.vm.findClass "com/example/oversee/oversee/model/Action" = some m.cls := by have q := findClass_of_methodNamed Bd.named; exact q
  have hnm := (name_of_methodNamed Bd.named Bd.method).1
  have X0 : Stand p l e ({ frames := 1, cells := 8, slots := 136, locals := 14 } : Room) s m #[(.ref a0), (.ref a1), (.ref a2), (.ref a3), (.ref a4)] below meth c s₁ [] 0 0 := Stand.of_body Bd
  have e0 : s₁.heap = h0 := by rw [← hh, Bd.state]; rfl
  have N0 := Fr.nil n0
  have hS0 : s.Since s.vm 0 := own_since0 s
  have pre0 : ∀ t, Steps p.tables e below (s₁.setTop (mkF m 0 #[.val (.ref a0), .val (.ref a1), .val (.ref a2), .val (.ref a3), .val (.ref a4)] [])) t → Steps p.tables e below (s₁.setTop (entryFrame m #[(.ref a0), (.ref a1), (.ref a2), (.ref a3), (.ref a4)] 5)) t := fun t k => castTop (ef_9 m a0 a1 a2 a3 a4) k
  have pre30 : ∀ t, Steps p.tables e below (s₁.setTop (mkF m 1 #[.val (.ref a0), .val (.ref a1), .val (.ref a2), .val (.ref a3), .val (.ref a4)] [(.ref a0)])) t → Steps p.tables e below (s₁.setTop (entryFrame m #[(.ref a0), (.ref a1), (.ref a2), (.ref a3), (.ref a4)] 5)) t := by
    intro t k
    refine pre0 t ?_
    show Steps p.tables e below (s₁.setTop (mkF m 0 #[.val (.ref a0), .val (.ref a1), .val (.ref a2), .val (.ref a3), .val (.ref a4)] [])) _
    refine XS.aloadN X0.here hx rfl (hb hby d9_0) rfl rfl ?_
    exact k
  obtain ⟨T31, X31, e31, st31⟩ := initO X0 hx hZ hown (hw _ (List.mem_of_getElem? (i := 46) rfl)) (hw _ (List.mem_of_getElem? (i := 19) rfl)) (hw _ (List.mem_of_getElem? (i := 20) rfl)) e0 (g := (mkF m 1 #[.val (.ref a0), .val (.ref a1), .val (.ref a2), .val (.ref a3), .val (.ref a4)] [(.ref a0)])) rfl (by rw [hml]; rfl) rfl (hb hby d9_1) (by decide) (W := 0) (by show 2 * 0 + _ ≤ _; exact Nat.le_of_eq rfl) (by decide)
  have pre32 : ∀ t, Steps p.tables e below (T31.setTop (mkF m 4 #[.val (.ref a0), .val (.ref a1), .val (.ref a2), .val (.ref a3), .val (.ref a4)] [])) t → Steps p.tables e below (s₁.setTop (entryFrame m #[(.ref a0), (.ref a1), (.ref a2), (.ref a3), (.ref a4)] 5)) t := fun t k => pre30 t (st31 t k)
  have pre33 : ∀ t, Steps p.tables e below (T31.setTop (mkF m 6 #[.val (.ref a0), .val (.ref a1), .val (.ref a2), .val (.ref a3), .val (.ref a4)] [(.ref a1), (.ref a0)])) t → Steps p.tables e below (s₁.setTop (entryFrame m #[(.ref a0), (.ref a1), (.ref a2), (.ref a3), (.ref a4)] 5)) t := by
    intro t k
    refine pre32 t ?_
    show Steps p.tables e below (T31.setTop (mkF m 4 #[.val (.ref a0), .val (.ref a1), .val (.ref a2), .val (.ref a3), .val (.ref a4)] [])) _
    refine XS.aloadN X31.here hx rfl (hb hby d9_4) rfl rfl ?_
    refine XS.aloadN X31.here hx rfl (hb hby d9_5) rfl rfl ?_
    exact k
  obtain ⟨a34, T34, h34, k34, X34, e34, E34, hS34, hk34, hZ34, ho34, st34⟩ := ldcS (s := s) (vm0 := s.vm) X31 hx hZ hown (hw _ (List.mem_of_getElem? (i := 47) rfl)) (own_strW hw) e31 hS0 (Nat.zero_le _) (g := (mkF m 6 #[.val (.ref a0), .val (.ref a1), .val (.ref a2), .val (.ref a3), .val (.ref a4)] [(.ref a1), (.ref a0)])) rfl (hb hby d9_6) (n := 24) (by decide) (by decide) (by decide) (by decide)
  have Z34 : n0 ≤ h34.size := Nat.le_trans Z0 E34.1
  have K34 : Keep h0 h34 [a0] := (Keep.refl h0 [a0]).ext E34
  have Ef35 : Exa Z h34 a1 "java/lang/String" := (E_a1).ext E34
  have Ef36 : Exa Z h34 a0 "com/example/oversee/oversee/model/Action" := (E_a0).ext E34
  have Ef37 : Exa Z h34 a2 "java/lang/String" := (E_a2).ext E34
  have Ef38 : Exa Z h34 a3 "com/example/oversee/oversee/model/Direction" := (E_a3).ext E34
  have Ef39 : Exa Z h34 a4 "java/lang/String" := (E_a4).ext E34
  have Ff40 : Fld Z h34 a0 "com/example/oversee/oversee/model/Action" "sender" "Ljava/lang/String;" w_sender_a0 := (F_sender_a0).ext E34
  have Ff41 : Fld Z h34 a0 "com/example/oversee/oversee/model/Action" "receiver" "Ljava/lang/String;" w_receiver_a0 := (F_receiver_a0).ext E34
  have Ff42 : Fld Z h34 a0 "com/example/oversee/oversee/model/Action" "direction" "Lcom/example/oversee/oversee/model/Direction;" w_direction_a0 := (F_direction_a0).ext E34
  have Ff43 : Fld Z h34 a0 "com/example/oversee/oversee/model/Action" "message" "Ljava/lang/String;" w_message_a0 := (F_message_a0).ext E34
  have pre44 : ∀ t, Steps p.tables e below (T34.setTop (mkF m 8 #[.val (.ref a0), .val (.ref a1), .val (.ref a2), .val (.ref a3), .val (.ref a4)] [(.ref a34), (.ref a1), (.ref a0)])) t → Steps p.tables e below (s₁.setTop (entryFrame m #[(.ref a0), (.ref a1), (.ref a2), (.ref a3), (.ref a4)] 5)) t := fun t k => pre33 t (st34 t k)
  obtain ⟨_, _, ⟨T45, L45, k45, n45⟩, -, X45, ⟨Lc45, hQ45, l45, y45, z45⟩, st45⟩ := Jvm.LawKit.callS X34 hx (y := (⟨"java/util/Objects", "requireNonNull", "(Ljava/lang/Object;Ljava/lang/String;)Ljava/lang/Object;"⟩ : MethodName)) ho34 (mvT hZ34 (hw _ (List.mem_of_getElem? (i := 50) rfl))) (mvT hZ34 (hw _ (List.mem_of_getElem? (i := 51) rfl))) (mvT hZ34 (hw _ (List.mem_of_getElem? (i := 52) rfl))) (mvT hZ34 (hw _ (List.mem_of_getElem? (i := 53) rfl))) (by decide) (backOf (W := 1) (rm10 l Z ar0 hw [] a1 a34 h34 n0 Z34) hZ34 (hw _ (List.mem_of_getElem? (i := 53) rfl)) (hw _ (List.mem_of_getElem? (i := 52) rfl)) (by decide) (by decide)) (g := (mkF m 8 #[.val (.ref a0), .val (.ref a1), .val (.ref a2), .val (.ref a3), .val (.ref a4)] [(.ref a34), (.ref a1), (.ref a0)])) rfl (by rw [hml]; rfl) (argsL := [(.ref a1), (.ref a34)]) (rest := [(.ref a0)]) (lenOf pd_1 rfl) rfl (by show 2 * 0 + _ ≤ _; exact Nat.le_of_eq rfl) (hb hby d9_8) (fun _ _ => ⟨rfl, e34, (by decide : 2 + 0 ≤ _), (by decide : 28 + 0 ≤ _)⟩)
  dsimp only [Pt.U, Pt.locs, Pt.cells, Pt.slots] at X45 l45 y45 z45 st45 hQ45
  subst l45 y45 z45
  obtain ⟨rfl, N45q, e45⟩ := hQ45
  have N45 := Fr.app N0 N45q
  have pre46 : ∀ t, Steps p.tables e below (T45.setTop (mkF m 11 #[.val (.ref a0), .val (.ref a1), .val (.ref a2), .val (.ref a3), .val (.ref a4)] [(.ref a1), (.ref a0)])) t → Steps p.tables e below (s₁.setTop (entryFrame m #[(.ref a0), (.ref a1), (.ref a2), (.ref a3), (.ref a4)] 5)) t := fun t k => pre44 t (st45 t k)
  obtain ⟨T47, X47, e47, st47⟩ := castY X45 hx hZ34 ho34 (hw _ (List.mem_of_getElem? (i := 54) rfl)) e45 (Ins.self Ef35) (g := (mkF m 11 #[.val (.ref a0), .val (.ref a1), .val (.ref a2), .val (.ref a3), .val (.ref a4)] [(.ref a1), (.ref a0)])) rfl rfl (hb hby d9_11)
  have pre48 : ∀ t, Steps p.tables e below (T47.setTop (mkF m 14 #[.val (.ref a0), .val (.ref a1), .val (.ref a2), .val (.ref a3), .val (.ref a4)] [(.ref a1), (.ref a0)])) t → Steps p.tables e below (s₁.setTop (entryFrame m #[(.ref a0), (.ref a1), (.ref a2), (.ref a3), (.ref a4)] 5)) t := fun t k => pre46 t (st47 t k)
  obtain ⟨T49, h49, X49, e49, W49, st49⟩ := putF X47 hx hZ34 ho34 (host := "") (Or.inl (hw _ (List.mem_of_getElem? (i := 55) rfl))) Via.refl e47 Ff40 Ef36 (Or.inr ⟨(hw _ (List.mem_of_getElem? (i := 56) rfl)), rfl, hnm⟩) (hw _ (List.mem_of_getElem? (i := 1) rfl)) (ty := (.object "java/lang/String")) (by decide) rfl rfl (g := (mkF m 14 #[.val (.ref a0), .val (.ref a1), .val (.ref a2), .val (.ref a3), .val (.ref a4)] [(.ref a1), (.ref a0)])) rfl rfl (hb hby d9_14)
  have Z49 : n0 ≤ h49.size := Nat.le_trans Z34 (Keep.of_wr W49).1
  have K49 : Keep h0 h49 [a0] := K34.wr W49 (Or.inl (List.mem_of_getElem? (i := 0) rfl))
  have N49 := Fr.snoc X49 N45 g_a0
  have hk49 := Nat.le_trans hk34 (Keep.of_wr W49).1
  have Ef50 : Exa Z h49 a1 "java/lang/String" := (Ef35).wr W49
  have Ef51 : Exa Z h49 a0 "com/example/oversee/oversee/model/Action" := (Ef36).wr W49
  have Ef52 : Exa Z h49 a2 "java/lang/String" := (Ef37).wr W49
  have Ef53 : Exa Z h49 a3 "com/example/oversee/oversee/model/Direction" := (Ef38).wr W49
  have Ef54 : Exa Z h49 a4 "java/lang/String" := (Ef39).wr W49
  have Ff55 : Fld Z h49 a0 "com/example/oversee/oversee/model/Action" "receiver" "Ljava/lang/String;" w_receiver_a0 := (Ff41).other W49 (Or.inr (slot_ne (Or.inr (hw _ (List.mem_of_getElem? (i := 59) rfl))) (Or.inr (hw _ (List.mem_of_getElem? (i := 56) rfl))) (by decide) (t := (.object "java/lang/String")) (t' := (.object "java/lang/String")) (by decide) (by decide)))
  have Ff56 : Fld Z h49 a0 "com/example/oversee/oversee/model/Action" "direction" "Lcom/example/oversee/oversee/model/Direction;" w_direction_a0 := (Ff42).other W49 (Or.inr (slot_ne (Or.inr (hw _ (List.mem_of_getElem? (i := 64) rfl))) (Or.inr (hw _ (List.mem_of_getElem? (i := 56) rfl))) (by decide) (t := (.object "com/example/oversee/oversee/model/Direction")) (t' := (.object "java/lang/String")) (by decide) (by decide)))
  have Ff57 : Fld Z h49 a0 "com/example/oversee/oversee/model/Action" "message" "Ljava/lang/String;" w_message_a0 := (Ff43).other W49 (Or.inr (slot_ne (Or.inr (hw _ (List.mem_of_getElem? (i := 67) rfl))) (Or.inr (hw _ (List.mem_of_getElem? (i := 56) rfl))) (by decide) (t := (.object "java/lang/String")) (t' := (.object "java/lang/String")) (by decide) (by decide)))
  have Fw49 : Fld Z h49 a0 "com/example/oversee/oversee/model/Action" "sender" "Ljava/lang/String;" (.ref a1) := (Ff40).same W49
  have pre58 : ∀ t, Steps p.tables e below (T49.setTop (mkF m 17 #[.val (.ref a0), .val (.ref a1), .val (.ref a2), .val (.ref a3), .val (.ref a4)] [])) t → Steps p.tables e below (s₁.setTop (entryFrame m #[(.ref a0), (.ref a1), (.ref a2), (.ref a3), (.ref a4)] 5)) t := fun t k => pre48 t (st49 t k)
  have pre59 : ∀ t, Steps p.tables e below (T49.setTop (mkF m 19 #[.val (.ref a0), .val (.ref a1), .val (.ref a2), .val (.ref a3), .val (.ref a4)] [(.ref a2), (.ref a0)])) t → Steps p.tables e below (s₁.setTop (entryFrame m #[(.ref a0), (.ref a1), (.ref a2), (.ref a3), (.ref a4)] 5)) t := by
    intro t k
    refine pre58 t ?_
    show Steps p.tables e below (T49.setTop (mkF m 17 #[.val (.ref a0), .val (.ref a1), .val (.ref a2), .val (.ref a3), .val (.ref a4)] [])) _
    refine XS.aloadN X49.here hx rfl (hb hby d9_17) rfl rfl ?_
    refine XS.aloadN X49.here hx rfl (hb hby d9_18) rfl rfl ?_
    exact k
  obtain ⟨a60, T60, h60, k60, X60, e60, E60, hS60, hk60, hZ60, ho60, st60⟩ := ldcS (s := s) (vm0 := T34.vm) X49 hx hZ34 ho34 (hw _ (List.mem_of_getElem? (i := 57) rfl)) (own_strW hw) e49 hS34 hk49 (g := (mkF m 19 #[.val (.ref a0), .val (.ref a1), .val (.ref a2), .val (.ref a3), .val (.ref a4)] [(.ref a2), (.ref a0)])) rfl (hb hby d9_19) (n := 32) (by decide) (by decide) (by decide) (by decide)
  have Z60 : n0 ≤ h60.size := Nat.le_trans Z49 E60.1
  have K60 : Keep h0 h60 [a0] := K49.ext E60
  have Ef61 : Exa Z h60 a1 "java/lang/String" := (Ef50).ext E60
  have Ef62 : Exa Z h60 a0 "com/example/oversee/oversee/model/Action" := (Ef51).ext E60
  have Ef63 : Exa Z h60 a2 "java/lang/String" := (Ef52).ext E60
  have Ef64 : Exa Z h60 a3 "com/example/oversee/oversee/model/Direction" := (Ef53).ext E60
  have Ef65 : Exa Z h60 a4 "java/lang/String" := (Ef54).ext E60
  have Ff66 : Fld Z h60 a0 "com/example/oversee/oversee/model/Action" "receiver" "Ljava/lang/String;" w_receiver_a0 := (Ff55).ext E60
  have Ff67 : Fld Z h60 a0 "com/example/oversee/oversee/model/Action" "direction" "Lcom/example/oversee/oversee/model/Direction;" w_direction_a0 := (Ff56).ext E60
  have Ff68 : Fld Z h60 a0 "com/example/oversee/oversee/model/Action" "message" "Ljava/lang/String;" w_message_a0 := (Ff57).ext E60
  have Ff69 : Fld Z h60 a0 "com/example/oversee/oversee/model/Action" "sender" "Ljava/lang/String;" (.ref a1) := (Fw49).ext E60
  have pre70 : ∀ t, Steps p.tables e below (T60.setTop (mkF m 21 #[.val (.ref a0), .val (.ref a1), .val (.ref a2), .val (.ref a3), .val (.ref a4)] [(.ref a60), (.ref a2), (.ref a0)])) t → Steps p.tables e below (s₁.setTop (entryFrame m #[(.ref a0), (.ref a1), (.ref a2), (.ref a3), (.ref a4)] 5)) t := fun t k => pre59 t (st60 t k)
  obtain ⟨_, _, ⟨T71, L71, k71, n71⟩, -, X71, ⟨Lc71, hQ71, l71, y71, z71⟩, st71⟩ := Jvm.LawKit.callS X60 hx (y := (⟨"java/util/Objects", "requireNonNull", "(Ljava/lang/Object;Ljava/lang/String;)Ljava/lang/Object;"⟩ : MethodName)) ho60 (mvT hZ60 (hw _ (List.mem_of_getElem? (i := 50) rfl))) (mvT hZ60 (hw _ (List.mem_of_getElem? (i := 51) rfl))) (mvT hZ60 (hw _ (List.mem_of_getElem? (i := 52) rfl))) (mvT hZ60 (hw _ (List.mem_of_getElem? (i := 53) rfl))) (by decide) (backOf (W := 1) (rm10 l Z ar0 hw [] a2 a60 h60 n0 Z60) hZ60 (hw _ (List.mem_of_getElem? (i := 53) rfl)) (hw _ (List.mem_of_getElem? (i := 52) rfl)) (by decide) (by decide)) (g := (mkF m 21 #[.val (.ref a0), .val (.ref a1), .val (.ref a2), .val (.ref a3), .val (.ref a4)] [(.ref a60), (.ref a2), (.ref a0)])) rfl (by rw [hml]; rfl) (argsL := [(.ref a2), (.ref a60)]) (rest := [(.ref a0)]) (lenOf pd_1 rfl) rfl (by show 2 * 0 + _ ≤ _; exact Nat.le_of_eq rfl) (hb hby d9_21) (fun _ _ => ⟨rfl, e60, (by decide : 4 + 0 ≤ _), (by decide : 64 + 0 ≤ _)⟩)
  dsimp only [Pt.U, Pt.locs, Pt.cells, Pt.slots] at X71 l71 y71 z71 st71 hQ71
  subst l71 y71 z71
  obtain ⟨rfl, N71q, e71⟩ := hQ71
  have N71 := Fr.app N49 N71q
  have pre72 : ∀ t, Steps p.tables e below (T71.setTop (mkF m 24 #[.val (.ref a0), .val (.ref a1), .val (.ref a2), .val (.ref a3), .val (.ref a4)] [(.ref a2), (.ref a0)])) t → Steps p.tables e below (s₁.setTop (entryFrame m #[(.ref a0), (.ref a1), (.ref a2), (.ref a3), (.ref a4)] 5)) t := fun t k => pre70 t (st71 t k)
  obtain ⟨T73, X73, e73, st73⟩ := castY X71 hx hZ60 ho60 (hw _ (List.mem_of_getElem? (i := 54) rfl)) e71 (Ins.self Ef63) (g := (mkF m 24 #[.val (.ref a0), .val (.ref a1), .val (.ref a2), .val (.ref a3), .val (.ref a4)] [(.ref a2), (.ref a0)])) rfl rfl (hb hby d9_24)
  have pre74 : ∀ t, Steps p.tables e below (T73.setTop (mkF m 27 #[.val (.ref a0), .val (.ref a1), .val (.ref a2), .val (.ref a3), .val (.ref a4)] [(.ref a2), (.ref a0)])) t → Steps p.tables e below (s₁.setTop (entryFrame m #[(.ref a0), (.ref a1), (.ref a2), (.ref a3), (.ref a4)] 5)) t := fun t k => pre72 t (st73 t k)
  obtain ⟨T75, h75, X75, e75, W75, st75⟩ := putF X73 hx hZ60 ho60 (host := "") (Or.inl (hw _ (List.mem_of_getElem? (i := 58) rfl))) Via.refl e73 Ff66 Ef62 (Or.inr ⟨(hw _ (List.mem_of_getElem? (i := 59) rfl)), rfl, hnm⟩) (hw _ (List.mem_of_getElem? (i := 1) rfl)) (ty := (.object "java/lang/String")) (by decide) rfl rfl (g := (mkF m 27 #[.val (.ref a0), .val (.ref a1), .val (.ref a2), .val (.ref a3), .val (.ref a4)] [(.ref a2), (.ref a0)])) rfl rfl (hb hby d9_27)
  have Z75 : n0 ≤ h75.size := Nat.le_trans Z60 (Keep.of_wr W75).1
  have K75 : Keep h0 h75 [a0] := K60.wr W75 (Or.inl (List.mem_of_getElem? (i := 0) rfl))
  have N75 := Fr.snoc X75 N71 g_a0
  have hk75 := Nat.le_trans hk60 (Keep.of_wr W75).1
  have Ef76 : Exa Z h75 a1 "java/lang/String" := (Ef61).wr W75
  have Ef77 : Exa Z h75 a0 "com/example/oversee/oversee/model/Action" := (Ef62).wr W75
  have Ef78 : Exa Z h75 a2 "java/lang/String" := (Ef63).wr W75
  have Ef79 : Exa Z h75 a3 "com/example/oversee/oversee/model/Direction" := (Ef64).wr W75
  have Ef80 : Exa Z h75 a4 "java/lang/String" := (Ef65).wr W75
  have Ff81 : Fld Z h75 a0 "com/example/oversee/oversee/model/Action" "direction" "Lcom/example/oversee/oversee/model/Direction;" w_direction_a0 := (Ff67).other W75 (Or.inr (slot_ne (Or.inr (hw _ (List.mem_of_getElem? (i := 64) rfl))) (Or.inr (hw _ (List.mem_of_getElem? (i := 59) rfl))) (by decide) (t := (.object "com/example/oversee/oversee/model/Direction")) (t' := (.object "java/lang/String")) (by decide) (by decide)))
  have Ff82 : Fld Z h75 a0 "com/example/oversee/oversee/model/Action" "message" "Ljava/lang/String;" w_message_a0 := (Ff68).other W75 (Or.inr (slot_ne (Or.inr (hw _ (List.mem_of_getElem? (i := 67) rfl))) (Or.inr (hw _ (List.mem_of_getElem? (i := 59) rfl))) (by decide) (t := (.object "java/lang/String")) (t' := (.object "java/lang/String")) (by decide) (by decide)))
  have Ff83 : Fld Z h75 a0 "com/example/oversee/oversee/model/Action" "sender" "Ljava/lang/String;" (.ref a1) := (Ff69).other W75 (Or.inr (slot_ne (Or.inr (hw _ (List.mem_of_getElem? (i := 56) rfl))) (Or.inr (hw _ (List.mem_of_getElem? (i := 59) rfl))) (by decide) (t := (.object "java/lang/String")) (t' := (.object "java/lang/String")) (by decide) (by decide)))
  have Fw75 : Fld Z h75 a0 "com/example/oversee/oversee/model/Action" "receiver" "Ljava/lang/String;" (.ref a2) := (Ff66).same W75
  have pre84 : ∀ t, Steps p.tables e below (T75.setTop (mkF m 30 #[.val (.ref a0), .val (.ref a1), .val (.ref a2), .val (.ref a3), .val (.ref a4)] [])) t → Steps p.tables e below (s₁.setTop (entryFrame m #[(.ref a0), (.ref a1), (.ref a2), (.ref a3), (.ref a4)] 5)) t := fun t k => pre74 t (st75 t k)
  have pre85 : ∀ t, Steps p.tables e below (T75.setTop (mkF m 32 #[.val (.ref a0), .val (.ref a1), .val (.ref a2), .val (.ref a3), .val (.ref a4)] [(.ref a3), (.ref a0)])) t → Steps p.tables e below (s₁.setTop (entryFrame m #[(.ref a0), (.ref a1), (.ref a2), (.ref a3), (.ref a4)] 5)) t := by
    intro t k
    refine pre84 t ?_
    show Steps p.tables e below (T75.setTop (mkF m 30 #[.val (.ref a0), .val (.ref a1), .val (.ref a2), .val (.ref a3), .val (.ref a4)] [])) _
    refine XS.aloadN X75.here hx rfl (hb hby d9_30) rfl rfl ?_
    refine XS.aloadN X75.here hx rfl (hb hby d9_31) rfl rfl ?_
    exact k
  obtain ⟨a86, T86, h86, k86, X86, e86, E86, hS86, hk86, hZ86, ho86, st86⟩ := ldcS (s := s) (vm0 := T60.vm) X75 hx hZ60 ho60 (hw _ (List.mem_of_getElem? (i := 60) rfl)) (own_strW hw) e75 hS60 hk75 (g := (mkF m 32 #[.val (.ref a0), .val (.ref a1), .val (.ref a2), .val (.ref a3), .val (.ref a4)] [(.ref a3), (.ref a0)])) rfl (hb hby d9_32) (n := 36) (by decide) (by decide) (by decide) (by decide)
  have Z86 : n0 ≤ h86.size := Nat.le_trans Z75 E86.1
  have K86 : Keep h0 h86 [a0] := K75.ext E86
  have Ef87 : Exa Z h86 a1 "java/lang/String" := (Ef76).ext E86
  have Ef88 : Exa Z h86 a0 "com/example/oversee/oversee/model/Action" := (Ef77).ext E86
  have Ef89 : Exa Z h86 a2 "java/lang/String" := (Ef78).ext E86
  have Ef90 : Exa Z h86 a3 "com/example/oversee/oversee/model/Direction" := (Ef79).ext E86
  have Ef91 : Exa Z h86 a4 "java/lang/String" := (Ef80).ext E86
  have Ff92 : Fld Z h86 a0 "com/example/oversee/oversee/model/Action" "direction" "Lcom/example/oversee/oversee/model/Direction;" w_direction_a0 := (Ff81).ext E86
  have Ff93 : Fld Z h86 a0 "com/example/oversee/oversee/model/Action" "message" "Ljava/lang/String;" w_message_a0 := (Ff82).ext E86
  have Ff94 : Fld Z h86 a0 "com/example/oversee/oversee/model/Action" "sender" "Ljava/lang/String;" (.ref a1) := (Ff83).ext E86
  have Ff95 : Fld Z h86 a0 "com/example/oversee/oversee/model/Action" "receiver" "Ljava/lang/String;" (.ref a2) := (Fw75).ext E86
  have pre96 : ∀ t, Steps p.tables e below (T86.setTop (mkF m 34 #[.val (.ref a0), .val (.ref a1), .val (.ref a2), .val (.ref a3), .val (.ref a4)] [(.ref a86), (.ref a3), (.ref a0)])) t → Steps p.tables e below (s₁.setTop (entryFrame m #[(.ref a0), (.ref a1), (.ref a2), (.ref a3), (.ref a4)] 5)) t := fun t k => pre85 t (st86 t k)
  obtain ⟨_, _, ⟨T97, L97, k97, n97⟩, -, X97, ⟨Lc97, hQ97, l97, y97, z97⟩, st97⟩ := Jvm.LawKit.callS X86 hx (y := (⟨"java/util/Objects", "requireNonNull", "(Ljava/lang/Object;Ljava/lang/String;)Ljava/lang/Object;"⟩ : MethodName)) ho86 (mvT hZ86 (hw _ (List.mem_of_getElem? (i := 50) rfl))) (mvT hZ86 (hw _ (List.mem_of_getElem? (i := 51) rfl))) (mvT hZ86 (hw _ (List.mem_of_getElem? (i := 52) rfl))) (mvT hZ86 (hw _ (List.mem_of_getElem? (i := 53) rfl))) (by decide) (backOf (W := 1) (rm10 l Z ar0 hw [] a3 a86 h86 n0 Z86) hZ86 (hw _ (List.mem_of_getElem? (i := 53) rfl)) (hw _ (List.mem_of_getElem? (i := 52) rfl)) (by decide) (by decide)) (g := (mkF m 34 #[.val (.ref a0), .val (.ref a1), .val (.ref a2), .val (.ref a3), .val (.ref a4)] [(.ref a86), (.ref a3), (.ref a0)])) rfl (by rw [hml]; rfl) (argsL := [(.ref a3), (.ref a86)]) (rest := [(.ref a0)]) (lenOf pd_1 rfl) rfl (by show 2 * 0 + _ ≤ _; exact Nat.le_of_eq rfl) (hb hby d9_34) (fun _ _ => ⟨rfl, e86, (by decide : 6 + 0 ≤ _), (by decide : 104 + 0 ≤ _)⟩)
  dsimp only [Pt.U, Pt.locs, Pt.cells, Pt.slots] at X97 l97 y97 z97 st97 hQ97
  subst l97 y97 z97
  obtain ⟨rfl, N97q, e97⟩ := hQ97
  have N97 := Fr.app N75 N97q
  have pre98 : ∀ t, Steps p.tables e below (T97.setTop (mkF m 37 #[.val (.ref a0), .val (.ref a1), .val (.ref a2), .val (.ref a3), .val (.ref a4)] [(.ref a3), (.ref a0)])) t → Steps p.tables e below (s₁.setTop (entryFrame m #[(.ref a0), (.ref a1), (.ref a2), (.ref a3), (.ref a4)] 5)) t := fun t k => pre96 t (st97 t k)
  obtain ⟨T99, X99, e99, st99⟩ := castY X97 hx hZ86 ho86 (hw _ (List.mem_of_getElem? (i := 61) rfl)) e97 (Ins.self Ef90) (g := (mkF m 37 #[.val (.ref a0), .val (.ref a1), .val (.ref a2), .val (.ref a3), .val (.ref a4)] [(.ref a3), (.ref a0)])) rfl rfl (hb hby d9_37)
  have pre100 : ∀ t, Steps p.tables e below (T99.setTop (mkF m 40 #[.val (.ref a0), .val (.ref a1), .val (.ref a2), .val (.ref a3), .val (.ref a4)] [(.ref a3), (.ref a0)])) t → Steps p.tables e below (s₁.setTop (entryFrame m #[(.ref a0), (.ref a1), (.ref a2), (.ref a3), (.ref a4)] 5)) t := fun t k => pre98 t (st99 t k)
  obtain ⟨T101, h101, X101, e101, W101, st101⟩ := putF X99 hx hZ86 ho86 (host := "") (Or.inl (hw _ (List.mem_of_getElem? (i := 63) rfl))) Via.refl e99 Ff92 Ef88 (Or.inr ⟨(hw _ (List.mem_of_getElem? (i := 64) rfl)), rfl, hnm⟩) (hw _ (List.mem_of_getElem? (i := 1) rfl)) (ty := (.object "com/example/oversee/oversee/model/Direction")) (by decide) rfl rfl (g := (mkF m 40 #[.val (.ref a0), .val (.ref a1), .val (.ref a2), .val (.ref a3), .val (.ref a4)] [(.ref a3), (.ref a0)])) rfl rfl (hb hby d9_40)
  have Z101 : n0 ≤ h101.size := Nat.le_trans Z86 (Keep.of_wr W101).1
  have K101 : Keep h0 h101 [a0] := K86.wr W101 (Or.inl (List.mem_of_getElem? (i := 0) rfl))
  have N101 := Fr.snoc X101 N97 g_a0
  have hk101 := Nat.le_trans hk86 (Keep.of_wr W101).1
  have Ef102 : Exa Z h101 a1 "java/lang/String" := (Ef87).wr W101
  have Ef103 : Exa Z h101 a0 "com/example/oversee/oversee/model/Action" := (Ef88).wr W101
  have Ef104 : Exa Z h101 a2 "java/lang/String" := (Ef89).wr W101
  have Ef105 : Exa Z h101 a3 "com/example/oversee/oversee/model/Direction" := (Ef90).wr W101
  have Ef106 : Exa Z h101 a4 "java/lang/String" := (Ef91).wr W101
  have Ff107 : Fld Z h101 a0 "com/example/oversee/oversee/model/Action" "message" "Ljava/lang/String;" w_message_a0 := (Ff93).other W101 (Or.inr (slot_ne (Or.inr (hw _ (List.mem_of_getElem? (i := 67) rfl))) (Or.inr (hw _ (List.mem_of_getElem? (i := 64) rfl))) (by decide) (t := (.object "java/lang/String")) (t' := (.object "com/example/oversee/oversee/model/Direction")) (by decide) (by decide)))
  have Ff108 : Fld Z h101 a0 "com/example/oversee/oversee/model/Action" "sender" "Ljava/lang/String;" (.ref a1) := (Ff94).other W101 (Or.inr (slot_ne (Or.inr (hw _ (List.mem_of_getElem? (i := 56) rfl))) (Or.inr (hw _ (List.mem_of_getElem? (i := 64) rfl))) (by decide) (t := (.object "java/lang/String")) (t' := (.object "com/example/oversee/oversee/model/Direction")) (by decide) (by decide)))
  have Ff109 : Fld Z h101 a0 "com/example/oversee/oversee/model/Action" "receiver" "Ljava/lang/String;" (.ref a2) := (Ff95).other W101 (Or.inr (slot_ne (Or.inr (hw _ (List.mem_of_getElem? (i := 59) rfl))) (Or.inr (hw _ (List.mem_of_getElem? (i := 64) rfl))) (by decide) (t := (.object "java/lang/String")) (t' := (.object "com/example/oversee/oversee/model/Direction")) (by decide) (by decide)))
  have Fw101 : Fld Z h101 a0 "com/example/oversee/oversee/model/Action" "direction" "Lcom/example/oversee/oversee/model/Direction;" (.ref a3) := (Ff92).same W101
  have pre110 : ∀ t, Steps p.tables e below (T101.setTop (mkF m 43 #[.val (.ref a0), .val (.ref a1), .val (.ref a2), .val (.ref a3), .val (.ref a4)] [])) t → Steps p.tables e below (s₁.setTop (entryFrame m #[(.ref a0), (.ref a1), (.ref a2), (.ref a3), (.ref a4)] 5)) t := fun t k => pre100 t (st101 t k)
  have pre111 : ∀ t, Steps p.tables e below (T101.setTop (mkF m 46 #[.val (.ref a0), .val (.ref a1), .val (.ref a2), .val (.ref a3), .val (.ref a4)] [(.ref a4), (.ref a0)])) t → Steps p.tables e below (s₁.setTop (entryFrame m #[(.ref a0), (.ref a1), (.ref a2), (.ref a3), (.ref a4)] 5)) t := by
    intro t k
    refine pre110 t ?_
    show Steps p.tables e below (T101.setTop (mkF m 43 #[.val (.ref a0), .val (.ref a1), .val (.ref a2), .val (.ref a3), .val (.ref a4)] [])) _
    refine XS.aloadN X101.here hx rfl (hb hby d9_43) rfl rfl ?_
    refine XS.aload X101.here hx rfl (hb hby d9_44) rfl rfl ?_
    exact k
  obtain ⟨a112, T112, h112, k112, X112, e112, E112, hS112, hk112, hZ112, ho112, st112⟩ := ldcS (s := s) (vm0 := T86.vm) X101 hx hZ86 ho86 (hw _ (List.mem_of_getElem? (i := 65) rfl)) (own_strW hw) e101 hS86 hk101 (g := (mkF m 46 #[.val (.ref a0), .val (.ref a1), .val (.ref a2), .val (.ref a3), .val (.ref a4)] [(.ref a4), (.ref a0)])) rfl (hb hby d9_46) (n := 28) (by decide) (by decide) (by decide) (by decide)
  have Z112 : n0 ≤ h112.size := Nat.le_trans Z101 E112.1
  have K112 : Keep h0 h112 [a0] := K101.ext E112
  have Ef113 : Exa Z h112 a1 "java/lang/String" := (Ef102).ext E112
  have Ef114 : Exa Z h112 a0 "com/example/oversee/oversee/model/Action" := (Ef103).ext E112
  have Ef115 : Exa Z h112 a2 "java/lang/String" := (Ef104).ext E112
  have Ef116 : Exa Z h112 a3 "com/example/oversee/oversee/model/Direction" := (Ef105).ext E112
  have Ef117 : Exa Z h112 a4 "java/lang/String" := (Ef106).ext E112
  have Ff118 : Fld Z h112 a0 "com/example/oversee/oversee/model/Action" "message" "Ljava/lang/String;" w_message_a0 := (Ff107).ext E112
  have Ff119 : Fld Z h112 a0 "com/example/oversee/oversee/model/Action" "sender" "Ljava/lang/String;" (.ref a1) := (Ff108).ext E112
  have Ff120 : Fld Z h112 a0 "com/example/oversee/oversee/model/Action" "receiver" "Ljava/lang/String;" (.ref a2) := (Ff109).ext E112
  have Ff121 : Fld Z h112 a0 "com/example/oversee/oversee/model/Action" "direction" "Lcom/example/oversee/oversee/model/Direction;" (.ref a3) := (Fw101).ext E112
  have pre122 : ∀ t, Steps p.tables e below (T112.setTop (mkF m 48 #[.val (.ref a0), .val (.ref a1), .val (.ref a2), .val (.ref a3), .val (.ref a4)] [(.ref a112), (.ref a4), (.ref a0)])) t → Steps p.tables e below (s₁.setTop (entryFrame m #[(.ref a0), (.ref a1), (.ref a2), (.ref a3), (.ref a4)] 5)) t := fun t k => pre111 t (st112 t k)
  obtain ⟨_, _, ⟨T123, L123, k123, n123⟩, -, X123, ⟨Lc123, hQ123, l123, y123, z123⟩, st123⟩ := Jvm.LawKit.callS X112 hx (y := (⟨"java/util/Objects", "requireNonNull", "(Ljava/lang/Object;Ljava/lang/String;)Ljava/lang/Object;"⟩ : MethodName)) ho112 (mvT hZ112 (hw _ (List.mem_of_getElem? (i := 50) rfl))) (mvT hZ112 (hw _ (List.mem_of_getElem? (i := 51) rfl))) (mvT hZ112 (hw _ (List.mem_of_getElem? (i := 52) rfl))) (mvT hZ112 (hw _ (List.mem_of_getElem? (i := 53) rfl))) (by decide) (backOf (W := 1) (rm10 l Z ar0 hw [] a4 a112 h112 n0 Z112) hZ112 (hw _ (List.mem_of_getElem? (i := 53) rfl)) (hw _ (List.mem_of_getElem? (i := 52) rfl)) (by decide) (by decide)) (g := (mkF m 48 #[.val (.ref a0), .val (.ref a1), .val (.ref a2), .val (.ref a3), .val (.ref a4)] [(.ref a112), (.ref a4), (.ref a0)])) rfl (by rw [hml]; rfl) (argsL := [(.ref a4), (.ref a112)]) (rest := [(.ref a0)]) (lenOf pd_1 rfl) rfl (by show 2 * 0 + _ ≤ _; exact Nat.le_of_eq rfl) (hb hby d9_48) (fun _ _ => ⟨rfl, e112, (by decide : 8 + 0 ≤ _), (by decide : 136 + 0 ≤ _)⟩)
  dsimp only [Pt.U, Pt.locs, Pt.cells, Pt.slots] at X123 l123 y123 z123 st123 hQ123
  subst l123 y123 z123
  obtain ⟨rfl, N123q, e123⟩ := hQ123
  have N123 := Fr.app N101 N123q
  have pre124 : ∀ t, Steps p.tables e below (T123.setTop (mkF m 51 #[.val (.ref a0), .val (.ref a1), .val (.ref a2), .val (.ref a3), .val (.ref a4)] [(.ref a4), (.ref a0)])) t → Steps p.tables e below (s₁.setTop (entryFrame m #[(.ref a0), (.ref a1), (.ref a2), (.ref a3), (.ref a4)] 5)) t := fun t k => pre122 t (st123 t k)
  obtain ⟨T125, X125, e125, st125⟩ := castY X123 hx hZ112 ho112 (hw _ (List.mem_of_getElem? (i := 54) rfl)) e123 (Ins.self Ef117) (g := (mkF m 51 #[.val (.ref a0), .val (.ref a1), .val (.ref a2), .val (.ref a3), .val (.ref a4)] [(.ref a4), (.ref a0)])) rfl rfl (hb hby d9_51)
  have pre126 : ∀ t, Steps p.tables e below (T125.setTop (mkF m 54 #[.val (.ref a0), .val (.ref a1), .val (.ref a2), .val (.ref a3), .val (.ref a4)] [(.ref a4), (.ref a0)])) t → Steps p.tables e below (s₁.setTop (entryFrame m #[(.ref a0), (.ref a1), (.ref a2), (.ref a3), (.ref a4)] 5)) t := fun t k => pre124 t (st125 t k)
  obtain ⟨T127, h127, X127, e127, W127, st127⟩ := putF X125 hx hZ112 ho112 (host := "") (Or.inl (hw _ (List.mem_of_getElem? (i := 66) rfl))) Via.refl e125 Ff118 Ef114 (Or.inr ⟨(hw _ (List.mem_of_getElem? (i := 67) rfl)), rfl, hnm⟩) (hw _ (List.mem_of_getElem? (i := 1) rfl)) (ty := (.object "java/lang/String")) (by decide) rfl rfl (g := (mkF m 54 #[.val (.ref a0), .val (.ref a1), .val (.ref a2), .val (.ref a3), .val (.ref a4)] [(.ref a4), (.ref a0)])) rfl rfl (hb hby d9_54)
  have Z127 : n0 ≤ h127.size := Nat.le_trans Z112 (Keep.of_wr W127).1
  have K127 : Keep h0 h127 [a0] := K112.wr W127 (Or.inl (List.mem_of_getElem? (i := 0) rfl))
  have N127 := Fr.snoc X127 N123 g_a0
  have hk127 := Nat.le_trans hk112 (Keep.of_wr W127).1
  have Ef128 : Exa Z h127 a1 "java/lang/String" := (Ef113).wr W127
  have Ef129 : Exa Z h127 a0 "com/example/oversee/oversee/model/Action" := (Ef114).wr W127
  have Ef130 : Exa Z h127 a2 "java/lang/String" := (Ef115).wr W127
  have Ef131 : Exa Z h127 a3 "com/example/oversee/oversee/model/Direction" := (Ef116).wr W127
  have Ef132 : Exa Z h127 a4 "java/lang/String" := (Ef117).wr W127
  have Ff133 : Fld Z h127 a0 "com/example/oversee/oversee/model/Action" "sender" "Ljava/lang/String;" (.ref a1) := (Ff119).other W127 (Or.inr (slot_ne (Or.inr (hw _ (List.mem_of_getElem? (i := 56) rfl))) (Or.inr (hw _ (List.mem_of_getElem? (i := 67) rfl))) (by decide) (t := (.object "java/lang/String")) (t' := (.object "java/lang/String")) (by decide) (by decide)))
  have Ff134 : Fld Z h127 a0 "com/example/oversee/oversee/model/Action" "receiver" "Ljava/lang/String;" (.ref a2) := (Ff120).other W127 (Or.inr (slot_ne (Or.inr (hw _ (List.mem_of_getElem? (i := 59) rfl))) (Or.inr (hw _ (List.mem_of_getElem? (i := 67) rfl))) (by decide) (t := (.object "java/lang/String")) (t' := (.object "java/lang/String")) (by decide) (by decide)))
  have Ff135 : Fld Z h127 a0 "com/example/oversee/oversee/model/Action" "direction" "Lcom/example/oversee/oversee/model/Direction;" (.ref a3) := (Ff121).other W127 (Or.inr (slot_ne (Or.inr (hw _ (List.mem_of_getElem? (i := 64) rfl))) (Or.inr (hw _ (List.mem_of_getElem? (i := 67) rfl))) (by decide) (t := (.object "com/example/oversee/oversee/model/Direction")) (t' := (.object "java/lang/String")) (by decide) (by decide)))
  have Fw127 : Fld Z h127 a0 "com/example/oversee/oversee/model/Action" "message" "Ljava/lang/String;" (.ref a4) := (Ff118).same W127
  have pre136 : ∀ t, Steps p.tables e below (T127.setTop (mkF m 57 #[.val (.ref a0), .val (.ref a1), .val (.ref a2), .val (.ref a3), .val (.ref a4)] [])) t → Steps p.tables e below (s₁.setTop (entryFrame m #[(.ref a0), (.ref a1), (.ref a2), (.ref a3), (.ref a4)] 5)) t := fun t k => pre126 t (st127 t k)
  obtain ⟨fs, hr, hrun, hended, hRW⟩ := X127.leaveW (s := s) (vm₁ := T112.vm) hS112 (by rw [e127]; exact hk127) (v := none) (fun _ => rfl)
  refine ⟨_, _, pre136 _ ?_, hrun, hended, _, _, rfl, ?_, hRW.1, hRW.2.1, hRW.2.2.1, hRW.2.2.2.mono (by decide) (by decide)⟩
  · show Steps p.tables e below (T127.setTop (mkF m 57 #[.val (.ref a0), .val (.ref a1), .val (.ref a2), .val (.ref a3), .val (.ref a4)] [])) _
    exact X127.returnOut hx Bd.returns (hb hby d9_57) hr
  · show Q9 Z a0 a1 a2 a3 a4 w_sender_a0 w_receiver_a0 w_direction_a0 w_message_a0 h0 n0 _ T127.heap _
    rw [e127]
    exact ⟨rfl, N127, K127, Ef129, Ff133, Ff134, Ff135, Fw127⟩
theorem d11_0 : decode prog_16_method_7_code 0 = .ok (.aload_n 0, 1) := by decide +kernel
theorem d11_1 : decode prog_16_method_7_code 1 = .ok (.aload_n 1, 1) := by decide +kernel
theorem d11_2 : decode prog_16_method_7_code 2 = .ok (.if_acmp .ne 5, 3) := by decide +kernel
theorem d11_5 : decode prog_16_method_7_code 5 = .ok (.iconst 1, 1) := by decide +kernel
theorem d11_6 : decode prog_16_method_7_code 6 = .ok (.ireturn, 1) := by decide +kernel
theorem ef_11_s (m : MethodId) (x0 : Addr) (x1 : Addr) : entryFrame m #[(.ref x1), (.ref x1)] 3 = mkF m 0 #[.val (.ref x1), .val (.ref x1), .unset] [] := by first | (simp [entryFrame, mkF, argsToLocals, Value.category]; done) | rfl
def Q11_s (Z : State) (a0 : Addr) (h0 : Heap) (n0 : Nat) (v : Option Value) (h : Heap) (L : List Loc) : Prop := v = some (.int (1 : Int32)) ∧ Fr n0 L ∧ h = h0
set_option maxRecDepth 65536 in
set_option maxHeartbeats 40000000 in
theorem rm11_s (l : Launch) (Z : State) (ar0 : Array Value) (hw : ∀ d ∈ tables_1, d.before ar0 Z = true) (ws : List Jvm.Cond) (a0 : Addr) (h0 : Heap) (n0 : Nat) (Z0 : n0 ≤ h0.size) :
    MetFree l (⟨"com/example/oversee/oversee/model/Action", "equals", "(Ljava/lang/Object;)Z"⟩ : MethodName) (head1 (Jvm.Cond.code (⟨"com/example/oversee/oversee/model/Action", "equals", "(Ljava/lang/Object;)Z"⟩ : MethodName) prog_16_method_7_code 3 (some .boolean) :: ws) ({ frames := 0, cells := 0, slots := 0, locals := 0 } : Room)) (fun a U => a = #[(.ref a0), (.ref a0)] ∧ Z.Warmed39 U.vm ∧ U.heap = h0) (fun _ _ _ _ _ => True) (fun _ U o U' => ∃ v L, o = .returned v ∧ Q11_s Z a0 h0 n0 v U'.heap L ∧ FrameEnd U o U' L ({ frames := 0, cells := 0, slots := 0, locals := 0 } : Room).cells ({ frames := 0, cells := 0, slots := 0, locals := 0 } : Room).slots) := by
  refine MetFree.of_bodySF (plainFor_of_name pn_2) hisR ?_
  intro p e s m args below meth c s₁ Bd hml0 hP hK
  obtain ⟨rfl, hZ, hh⟩ := hP
  have hx := Bd.exec
  have hby := Bd.bytes
  have hml : c.maxLocals = 3 := hml0
  have hown : s.vm.findClass "com/example/oversee/oversee/model/Action" = some m.cls := by have q := findClass_of_methodNamed Bd.named; exact q
  have hnm := (name_of_methodNamed Bd.named Bd.method).1
  have X0 : Stand p l e ({ frames := 0, cells := 0, slots := 0, locals := 0 } : Room) s m #[(.ref a0), (.ref a0)] below meth c s₁ [] 0 0 := Stand.of_body Bd
  have e0 : s₁.heap = h0 := by rw [← hh, Bd.state]; rfl
  have N0 := Fr.nil n0
  have pre0 : ∀ t, Steps p.tables e below (s₁.setTop (mkF m 0 #[.val (.ref a0), .val (.ref a0), .unset] [])) t → Steps p.tables e below (s₁.setTop (entryFrame m #[(.ref a0), (.ref a0)] 3)) t := fun t k => castTop (ef_11_s m a0 a0) k
  obtain ⟨fs, hr, hrun, hended, hW, hsame⟩ := X0.leave (v := some (.int (1 : Int32))) (fun h => by rw [Bd.returns] at h; cases h)
  refine ⟨_, _, pre0 _ ?_, hrun, hended, _, _, rfl, ?_, ⟨_, rfl⟩, hW, hsame.mono (by decide) (by decide)⟩
  · show Steps p.tables e below (s₁.setTop (mkF m 0 #[.val (.ref a0), .val (.ref a0), .unset] [])) _
    refine XS.aloadN X0.here hx rfl (hb hby d11_0) rfl rfl ?_
    refine XS.aloadN X0.here hx rfl (hb hby d11_1) rfl rfl ?_
    refine Jvm.RoadKit.acmp (g := (mkF m 2 #[.val (.ref a0), .val (.ref a0), .unset] [(.ref a0), (.ref a0)])) X0 hx rfl rfl rfl (pc0 := 2) (pc' := 5) (same := true) rfl (hb hby d11_2) rfl (decide_eq_true rfl) (by decide) (by decide) ?_
    refine XS.iconst X0.here hx rfl (hb hby d11_5) ?_
    exact retN X0 hx (t := .boolean) Bd.returns (by simp) (hb hby d11_6) hr
  · show Q11_s Z a0 h0 n0 _ s₁.heap _
    rw [e0]
    exact ⟨rfl, N0, rfl⟩
theorem d11_7 : decode prog_16_method_7_code 7 = .ok (.aload_n 1, 1) := by decide +kernel
theorem d11_8 : decode prog_16_method_7_code 8 = .ok (.instanceof 18, 3) := by decide +kernel
theorem d11_11 : decode prog_16_method_7_code 11 = .ok (.ifCond .eq 11, 3) := by decide +kernel
theorem d11_22 : decode prog_16_method_7_code 22 = .ok (.iconst 0, 1) := by decide +kernel
theorem d11_23 : decode prog_16_method_7_code 23 = .ok (.ireturn, 1) := by decide +kernel
theorem ef_11_n (m : MethodId) (x0 : Addr) : entryFrame m #[(.ref x0), .null] 3 = mkF m 0 #[.val (.ref x0), .val .null, .unset] [] := by first | (simp [entryFrame, mkF, argsToLocals, Value.category]; done) | rfl
def Q11_n (Z : State) (a0 : Addr) (h0 : Heap) (n0 : Nat) (v : Option Value) (h : Heap) (L : List Loc) : Prop := v = some (.int (0 : Int32)) ∧ Fr n0 L ∧ h = h0
set_option maxRecDepth 65536 in
set_option maxHeartbeats 40000000 in
theorem rm11_n (l : Launch) (Z : State) (ar0 : Array Value) (hw : ∀ d ∈ tables_1, d.before ar0 Z = true) (ws : List Jvm.Cond) (a0 : Addr) (h0 : Heap) (n0 : Nat) (Z0 : n0 ≤ h0.size) :
    MetFree l (⟨"com/example/oversee/oversee/model/Action", "equals", "(Ljava/lang/Object;)Z"⟩ : MethodName) (head1 (Jvm.Cond.code (⟨"com/example/oversee/oversee/model/Action", "equals", "(Ljava/lang/Object;)Z"⟩ : MethodName) prog_16_method_7_code 3 (some .boolean) :: ws) ({ frames := 0, cells := 0, slots := 0, locals := 0 } : Room)) (fun a U => a = #[(.ref a0), .null] ∧ Z.Warmed39 U.vm ∧ U.heap = h0) (fun _ _ _ _ _ => True) (fun _ U o U' => ∃ v L, o = .returned v ∧ Q11_n Z a0 h0 n0 v U'.heap L ∧ FrameEnd U o U' L ({ frames := 0, cells := 0, slots := 0, locals := 0 } : Room).cells ({ frames := 0, cells := 0, slots := 0, locals := 0 } : Room).slots) := by
  refine MetFree.of_bodySF (plainFor_of_name pn_2) hisR ?_
  intro p e s m args below meth c s₁ Bd hml0 hP hK
  obtain ⟨rfl, hZ, hh⟩ := hP
  have hx := Bd.exec
  have hby := Bd.bytes
  have hml : c.maxLocals = 3 := hml0
  have hown : s.vm.findClass "com/example/oversee/oversee/model/Action" = some m.cls := by have q := findClass_of_methodNamed Bd.named; exact q
  have hnm := (name_of_methodNamed Bd.named Bd.method).1
  have X0 : Stand p l e ({ frames := 0, cells := 0, slots := 0, locals := 0 } : Room) s m #[(.ref a0), .null] below meth c s₁ [] 0 0 := Stand.of_body Bd
  have e0 : s₁.heap = h0 := by rw [← hh, Bd.state]; rfl
  have N0 := Fr.nil n0
  have pre0 : ∀ t, Steps p.tables e below (s₁.setTop (mkF m 0 #[.val (.ref a0), .val .null, .unset] [])) t → Steps p.tables e below (s₁.setTop (entryFrame m #[(.ref a0), .null] 3)) t := fun t k => castTop (ef_11_n m a0) k
  have pre137 : ∀ t, Steps p.tables e below (s₁.setTop (mkF m 8 #[.val (.ref a0), .val .null, .unset] [.null])) t → Steps p.tables e below (s₁.setTop (entryFrame m #[(.ref a0), .null] 3)) t := by
    intro t k
    refine pre0 t ?_
    show Steps p.tables e below (s₁.setTop (mkF m 0 #[.val (.ref a0), .val .null, .unset] [])) _
    refine XS.aloadN X0.here hx rfl (hb hby d11_0) rfl rfl ?_
    refine XS.aloadN X0.here hx rfl (hb hby d11_1) rfl rfl ?_
    refine Jvm.RoadKit.acmp (g := (mkF m 2 #[.val (.ref a0), .val .null, .unset] [.null, (.ref a0)])) X0 hx rfl rfl rfl (pc0 := 2) (pc' := 7) (same := false) rfl (hb hby d11_2) rfl (decide_eq_false nofun) (by decide) (by decide) ?_
    refine XS.aloadN X0.here hx rfl (hb hby d11_7) rfl rfl ?_
    exact k
  obtain ⟨fs, hr, hrun, hended, hW, hsame⟩ := X0.leave (v := some (.int (0 : Int32))) (fun h => by rw [Bd.returns] at h; cases h)
  refine ⟨_, _, pre137 _ ?_, hrun, hended, _, _, rfl, ?_, ⟨_, rfl⟩, hW, hsame.mono (by decide) (by decide)⟩
  · show Steps p.tables e below (s₁.setTop (mkF m 8 #[.val (.ref a0), .val .null, .unset] [.null])) _
    refine X0.instanceofNull hx (g := (mkF m 8 #[.val (.ref a0), .val .null, .unset] [.null])) rfl rfl (hb hby d11_8) _ ?_
    refine XS.ifYes X0.here hx rfl (pc0 := 11) (pc' := 22) rfl (hb hby d11_11) rfl ((if0 _ _).trans (teq (by decide : (0 : Int32) = (0 : Int32))).1) (by decide) (by decide) ?_
    refine XS.iconst X0.here hx rfl (hb hby d11_22) ?_
    exact retN X0 hx (t := .boolean) Bd.returns (by simp) (hb hby d11_23) hr
  · show Q11_n Z a0 h0 n0 _ s₁.heap _
    rw [e0]
    exact ⟨rfl, N0, rfl⟩
theorem own_noinst {Z : State} {ar0 : Array Value} (hw : ∀ d ∈ tables_1, d.before ar0 Z = true) : ∃ c t, Z.vm.findClass "java/lang/String" = some c ∧ Z.vm.findClass "com/example/oversee/oversee/model/Action" = some t ∧ Z.vm.assignable c t = false := by
  obtain ⟨t, kt, g1, g2, g3, g4, -, -⟩ := Cond.instantiable_spec (hw _ (List.mem_of_getElem? (i := 1) rfl))
  simp only [Bool.or_eq_false_iff] at g4
  have r0 : NS Z "java/lang/Object" "com/example/oversee/oversee/model/Action" := by
    obtain ⟨c, k, h1, h2, h3, -, -⟩ := Cond.noSuperclass_spec (hw _ (List.mem_of_getElem? (i := 88) rfl))
    have ne := ids_ne h1 g1 (by decide)
    refine ⟨c, t, h1, g1, fun fuel => ?_⟩
    cases fuel with
    | zero => rfl
    | succ f => simp [Vm.isSubclassAux, ne, h2, h3]
  obtain ⟨c, t', h0, g0, n3⟩ : NS Z "java/lang/String" "com/example/oversee/oversee/model/Action" := NS.step (hw _ (List.mem_of_getElem? (i := 87) rfl)) r0 (by decide)
  cases g1.symm.trans g0
  obtain ⟨p, k, kp, h1, h2, h3, h4, h5, -, h7⟩ := Cond.superclass_spec h0 (hw _ (List.mem_of_getElem? (i := 87) rfl))
  have ne := ids_ne h0 g0 (by decide)
  refine ⟨c, t, h0, g0, ?_⟩
  show Z.vm.assignableAux (255 + 1) c t = false
  simp [Vm.assignableAux, ne, h2, g2, h5, g3, g4.1, Vm.isSubclass, n3]
theorem ef_11 (m : MethodId) (x0 : Addr) (x1 : Addr) : entryFrame m #[(.ref x0), (.ref x1)] 3 = mkF m 0 #[.val (.ref x0), .val (.ref x1), .unset] [] := by first | (simp [entryFrame, mkF, argsToLocals, Value.category]; done) | rfl
def Q11_l (Z : State) (a0 : Addr) (a1 : Addr) (h0 : Heap) (n0 : Nat) (v : Option Value) (h : Heap) (L : List Loc) : Prop := v = some (.int (0 : Int32)) ∧ Fr n0 L ∧ h = h0
set_option maxRecDepth 65536 in
set_option maxHeartbeats 40000000 in
theorem rm11_l (l : Launch) (Z : State) (ar0 : Array Value) (hw : ∀ d ∈ tables_1, d.before ar0 Z = true) (ws : List Jvm.Cond) (a0 : Addr) (a1 : Addr) (h0 : Heap) (n0 : Nat) (Z0 : n0 ≤ h0.size) (ne_a0_a1 : a0 ≠ a1) (E_a1 : Exa Z h0 a1 "java/lang/String") :
    MetFree l (⟨"com/example/oversee/oversee/model/Action", "equals", "(Ljava/lang/Object;)Z"⟩ : MethodName) (head1 (Jvm.Cond.code (⟨"com/example/oversee/oversee/model/Action", "equals", "(Ljava/lang/Object;)Z"⟩ : MethodName) prog_16_method_7_code 3 (some .boolean) :: ws) ({ frames := 0, cells := 0, slots := 0, locals := 0 } : Room)) (fun a U => a = #[(.ref a0), (.ref a1)] ∧ Z.Warmed39 U.vm ∧ U.heap = h0) (fun _ _ _ _ _ => True) (fun _ U o U' => ∃ v L, o = .returned v ∧ Q11_l Z a0 a1 h0 n0 v U'.heap L ∧ FrameEnd U o U' L ({ frames := 0, cells := 0, slots := 0, locals := 0 } : Room).cells ({ frames := 0, cells := 0, slots := 0, locals := 0 } : Room).slots) := by
  refine MetFree.of_bodySF (plainFor_of_name pn_2) hisR ?_
  intro p e s m args below meth c s₁ Bd hml0 hP hK
  obtain ⟨rfl, hZ, hh⟩ := hP
  have hx := Bd.exec
  have hby := Bd.bytes
  have hml : c.maxLocals = 3 := hml0
  have hown : s.vm.findClass "com/example/oversee/oversee/model/Action" = some m.cls := by have q := findClass_of_methodNamed Bd.named; exact q
  have hnm := (name_of_methodNamed Bd.named Bd.method).1
  have X0 : Stand p l e ({ frames := 0, cells := 0, slots := 0, locals := 0 } : Room) s m #[(.ref a0), (.ref a1)] below meth c s₁ [] 0 0 := Stand.of_body Bd
  have e0 : s₁.heap = h0 := by rw [← hh, Bd.state]; rfl
  have N0 := Fr.nil n0
  have pre0 : ∀ t, Steps p.tables e below (s₁.setTop (mkF m 0 #[.val (.ref a0), .val (.ref a1), .unset] [])) t → Steps p.tables e below (s₁.setTop (entryFrame m #[(.ref a0), (.ref a1)] 3)) t := fun t k => castTop (ef_11 m a0 a1) k
  have pre138 : ∀ t, Steps p.tables e below (s₁.setTop (mkF m 8 #[.val (.ref a0), .val (.ref a1), .unset] [(.ref a1)])) t → Steps p.tables e below (s₁.setTop (entryFrame m #[(.ref a0), (.ref a1)] 3)) t := by
    intro t k
    refine pre0 t ?_
    show Steps p.tables e below (s₁.setTop (mkF m 0 #[.val (.ref a0), .val (.ref a1), .unset] [])) _
    refine XS.aloadN X0.here hx rfl (hb hby d11_0) rfl rfl ?_
    refine XS.aloadN X0.here hx rfl (hb hby d11_1) rfl rfl ?_
    refine Jvm.RoadKit.acmp (g := (mkF m 2 #[.val (.ref a0), .val (.ref a1), .unset] [(.ref a1), (.ref a0)])) X0 hx rfl rfl rfl (pc0 := 2) (pc' := 7) (same := false) rfl (hb hby d11_2) rfl (decide_eq_false fun q => ne_a0_a1 (Value.ref.inj q)) (by decide) (by decide) ?_
    refine XS.aloadN X0.here hx rfl (hb hby d11_7) rfl rfl ?_
    exact k
  obtain ⟨T139, X139, e139, st139⟩ := instNo X0 hx hZ hown (hw _ (List.mem_of_getElem? (i := 73) rfl)) e0 E_a1 (own_noinst hw) (g := (mkF m 8 #[.val (.ref a0), .val (.ref a1), .unset] [(.ref a1)])) rfl rfl (hb hby d11_8)
  have pre140 : ∀ t, Steps p.tables e below (T139.setTop (mkF m 11 #[.val (.ref a0), .val (.ref a1), .unset] [(.int (0 : Int32))])) t → Steps p.tables e below (s₁.setTop (entryFrame m #[(.ref a0), (.ref a1)] 3)) t := fun t k => pre138 t (st139 t k)
  obtain ⟨fs, hr, hrun, hended, hW, hsame⟩ := X139.leave (v := some (.int (0 : Int32))) (fun h => by rw [Bd.returns] at h; cases h)
  refine ⟨_, _, pre140 _ ?_, hrun, hended, _, _, rfl, ?_, ⟨_, rfl⟩, hW, hsame.mono (by decide) (by decide)⟩
  · show Steps p.tables e below (T139.setTop (mkF m 11 #[.val (.ref a0), .val (.ref a1), .unset] [(.int (0 : Int32))])) _
    refine XS.ifYes X139.here hx rfl (pc0 := 11) (pc' := 22) rfl (hb hby d11_11) rfl ((if0 _ _).trans (teq (by decide : (0 : Int32) = (0 : Int32))).1) (by decide) (by decide) ?_
    refine XS.iconst X139.here hx rfl (hb hby d11_22) ?_
    exact retN X139 hx (t := .boolean) Bd.returns (by simp) (hb hby d11_23) hr
  · show Q11_l Z a0 a1 h0 n0 _ T139.heap _
    rw [e139]
    exact ⟨rfl, N0, rfl⟩
theorem pd_2 : parseMethodDescriptor "(Ljava/lang/Object;)Z" = some ⟨[(.object "java/lang/Object")], some .boolean⟩ := by decide +kernel
theorem d11_14 : decode prog_16_method_7_code 14 = .ok (.aload_n 1, 1) := by decide +kernel
theorem d11_15 : decode prog_16_method_7_code 15 = .ok (.checkcast 18, 3) := by decide +kernel
theorem d11_18 : decode prog_16_method_7_code 18 = .ok (.astore_n 2, 1) := by decide +kernel
theorem d11_19 : decode prog_16_method_7_code 19 = .ok (.goto 5, 3) := by decide +kernel
theorem d11_24 : decode prog_16_method_7_code 24 = .ok (.aload_n 0, 1) := by decide +kernel
theorem d11_25 : decode prog_16_method_7_code 25 = .ok (.getfield 17, 3) := by decide +kernel
theorem d11_28 : decode prog_16_method_7_code 28 = .ok (.aload_n 2, 1) := by decide +kernel
theorem d11_29 : decode prog_16_method_7_code 29 = .ok (.getfield 17, 3) := by decide +kernel
theorem d11_32 : decode prog_16_method_7_code 32 = .ok (.invokevirtual 40, 3) := by decide +kernel
theorem d11_35 : decode prog_16_method_7_code 35 = .ok (.ifCond .eq 46, 3) := by decide +kernel
theorem d11_38 : decode prog_16_method_7_code 38 = .ok (.aload_n 0, 1) := by decide +kernel
theorem d11_39 : decode prog_16_method_7_code 39 = .ok (.getfield 24, 3) := by decide +kernel
theorem d11_42 : decode prog_16_method_7_code 42 = .ok (.aload_n 2, 1) := by decide +kernel
theorem d11_43 : decode prog_16_method_7_code 43 = .ok (.getfield 24, 3) := by decide +kernel
theorem d11_46 : decode prog_16_method_7_code 46 = .ok (.invokevirtual 40, 3) := by decide +kernel
theorem d11_49 : decode prog_16_method_7_code 49 = .ok (.ifCond .eq 32, 3) := by decide +kernel
theorem d11_52 : decode prog_16_method_7_code 52 = .ok (.aload_n 0, 1) := by decide +kernel
theorem d11_53 : decode prog_16_method_7_code 53 = .ok (.getfield 30, 3) := by decide +kernel
theorem d11_56 : decode prog_16_method_7_code 56 = .ok (.aload_n 2, 1) := by decide +kernel
theorem d11_57 : decode prog_16_method_7_code 57 = .ok (.getfield 30, 3) := by decide +kernel
theorem d11_60 : decode prog_16_method_7_code 60 = .ok (.if_acmp .ne 21, 3) := by decide +kernel
theorem d11_63 : decode prog_16_method_7_code 63 = .ok (.aload_n 0, 1) := by decide +kernel
theorem d11_64 : decode prog_16_method_7_code 64 = .ok (.getfield 35, 3) := by decide +kernel
theorem d11_67 : decode prog_16_method_7_code 67 = .ok (.aload_n 2, 1) := by decide +kernel
theorem d11_68 : decode prog_16_method_7_code 68 = .ok (.getfield 35, 3) := by decide +kernel
theorem d11_71 : decode prog_16_method_7_code 71 = .ok (.invokevirtual 40, 3) := by decide +kernel
theorem d11_74 : decode prog_16_method_7_code 74 = .ok (.ifCond .eq 7, 3) := by decide +kernel
theorem d11_77 : decode prog_16_method_7_code 77 = .ok (.iconst 1, 1) := by decide +kernel
theorem d11_78 : decode prog_16_method_7_code 78 = .ok (.goto 4, 3) := by decide +kernel
theorem d11_81 : decode prog_16_method_7_code 81 = .ok (.iconst 0, 1) := by decide +kernel
theorem d11_82 : decode prog_16_method_7_code 82 = .ok (.ireturn, 1) := by decide +kernel
def f11_y (xs0 : Int32) (xr0 : Int32) (xm0 : Int32) (xs1 : Int32) (xr1 : Int32) (xm1 : Int32) (d0 : Addr) (d1 : Addr) : Int32 := (if (own_eq xs0 xs1) = (0 : Int32) then (0 : Int32) else (if (own_eq xr0 xr1) = (0 : Int32) then (0 : Int32) else (if d0 = d1 then (if (own_eq xm0 xm1) = (0 : Int32) then (0 : Int32) else (1 : Int32)) else (0 : Int32))))
def Q11_y (Z : State) (a0 : Addr) (a1 : Addr) (xs0 : Int32) (xr0 : Int32) (xm0 : Int32) (xs1 : Int32) (xr1 : Int32) (xm1 : Int32) (gc1 : Int32) (d0 : Addr) (s0 : Addr) (ts0 : Addr) (k_ts0 : ClassId) (r0 : Addr) (tr0 : Addr) (k_tr0 : ClassId) (m0 : Addr) (tm0 : Addr) (k_tm0 : ClassId) (d1 : Addr) (s1 : Addr) (ts1 : Addr) (k_ts1 : ClassId) (r1 : Addr) (tr1 : Addr) (k_tr1 : ClassId) (m1 : Addr) (tm1 : Addr) (k_tm1 : ClassId) (h0 : Heap) (n0 : Nat) (v : Option Value) (h : Heap) (L : List Loc) : Prop := v = some (.int (f11_y xs0 xr0 xm0 xs1 xr1 xm1 d0 d1)) ∧ Fr n0 L ∧ h = h0
set_option maxRecDepth 65536 in
set_option maxHeartbeats 40000000 in
theorem rm11_y (l : Launch) (Z : State) (ar0 : Array Value) (hw : ∀ d ∈ tables_1, d.before ar0 Z = true) (ws : List Jvm.Cond) (a0 : Addr) (a1 : Addr) (xs0 : Int32) (xr0 : Int32) (xm0 : Int32) (xs1 : Int32) (xr1 : Int32) (xm1 : Int32) (gc1 : Int32) (d0 : Addr) (s0 : Addr) (ts0 : Addr) (k_ts0 : ClassId) (r0 : Addr) (tr0 : Addr) (k_tr0 : ClassId) (m0 : Addr) (tm0 : Addr) (k_tm0 : ClassId) (d1 : Addr) (s1 : Addr) (ts1 : Addr) (k_ts1 : ClassId) (r1 : Addr) (tr1 : Addr) (k_tr1 : ClassId) (m1 : Addr) (tm1 : Addr) (k_tm1 : ClassId) (h0 : Heap) (n0 : Nat) (Z0 : n0 ≤ h0.size) (P5 : ¬ (gc1 = (0 : Int32))) (S_COMPACT_STRINGS : Sta Z h0 "java/lang/String" "COMPACT_STRINGS" "Z" (.int gc1)) (E_a0 : Exa Z h0 a0 "com/example/oversee/oversee/model/Action") (F_direction_a0 : Fld Z h0 a0 "com/example/oversee/oversee/model/Action" "direction" "Lcom/example/oversee/oversee/model/Direction;" (.ref d0)) (F_sender_a0 : Fld Z h0 a0 "com/example/oversee/oversee/model/Action" "sender" "Ljava/lang/String;" (.ref s0)) (E_s0 : Exa Z h0 s0 "java/lang/String") (F_value_s0 : Fld Z h0 s0 "java/lang/String" "value" "[B" (.ref ts0)) (F_coder_s0 : Fld Z h0 s0 "java/lang/String" "coder" "B" (.int (0 : Int32))) (B_ts0 : Arv Z h0 ts0 k_ts0 .byte (1 : Int32) ((([(own_ch xs0)] : List Int32).map (fun c => c.toInt8.toInt32)).map Value.int) (.int (0 : Int32))) (F_receiver_a0 : Fld Z h0 a0 "com/example/oversee/oversee/model/Action" "receiver" "Ljava/lang/String;" (.ref r0)) (E_r0 : Exa Z h0 r0 "java/lang/String") (F_value_r0 : Fld Z h0 r0 "java/lang/String" "value" "[B" (.ref tr0)) (F_coder_r0 : Fld Z h0 r0 "java/lang/String" "coder" "B" (.int (0 : Int32))) (B_tr0 : Arv Z h0 tr0 k_tr0 .byte (1 : Int32) ((([(own_ch xr0)] : List Int32).map (fun c => c.toInt8.toInt32)).map Value.int) (.int (0 : Int32))) (F_message_a0 : Fld Z h0 a0 "com/example/oversee/oversee/model/Action" "message" "Ljava/lang/String;" (.ref m0)) (E_m0 : Exa Z h0 m0 "java/lang/String") (F_value_m0 : Fld Z h0 m0 "java/lang/String" "value" "[B" (.ref tm0)) (F_coder_m0 : Fld Z h0 m0 "java/lang/String" "coder" "B" (.int (0 : Int32))) (B_tm0 : Arv Z h0 tm0 k_tm0 .byte (1 : Int32) ((([(own_ch xm0)] : List Int32).map (fun c => c.toInt8.toInt32)).map Value.int) (.int (0 : Int32))) (E_a1 : Exa Z h0 a1 "com/example/oversee/oversee/model/Action") (F_direction_a1 : Fld Z h0 a1 "com/example/oversee/oversee/model/Action" "direction" "Lcom/example/oversee/oversee/model/Direction;" (.ref d1)) (F_sender_a1 : Fld Z h0 a1 "com/example/oversee/oversee/model/Action" "sender" "Ljava/lang/String;" (.ref s1)) (E_s1 : Exa Z h0 s1 "java/lang/String") (F_value_s1 : Fld Z h0 s1 "java/lang/String" "value" "[B" (.ref ts1)) (F_coder_s1 : Fld Z h0 s1 "java/lang/String" "coder" "B" (.int (0 : Int32))) (B_ts1 : Arv Z h0 ts1 k_ts1 .byte (1 : Int32) ((([(own_ch xs1)] : List Int32).map (fun c => c.toInt8.toInt32)).map Value.int) (.int (0 : Int32))) (F_receiver_a1 : Fld Z h0 a1 "com/example/oversee/oversee/model/Action" "receiver" "Ljava/lang/String;" (.ref r1)) (E_r1 : Exa Z h0 r1 "java/lang/String") (F_value_r1 : Fld Z h0 r1 "java/lang/String" "value" "[B" (.ref tr1)) (F_coder_r1 : Fld Z h0 r1 "java/lang/String" "coder" "B" (.int (0 : Int32))) (B_tr1 : Arv Z h0 tr1 k_tr1 .byte (1 : Int32) ((([(own_ch xr1)] : List Int32).map (fun c => c.toInt8.toInt32)).map Value.int) (.int (0 : Int32))) (F_message_a1 : Fld Z h0 a1 "com/example/oversee/oversee/model/Action" "message" "Ljava/lang/String;" (.ref m1)) (E_m1 : Exa Z h0 m1 "java/lang/String") (F_value_m1 : Fld Z h0 m1 "java/lang/String" "value" "[B" (.ref tm1)) (F_coder_m1 : Fld Z h0 m1 "java/lang/String" "coder" "B" (.int (0 : Int32))) (B_tm1 : Arv Z h0 tm1 k_tm1 .byte (1 : Int32) ((([(own_ch xm1)] : List Int32).map (fun c => c.toInt8.toInt32)).map Value.int) (.int (0 : Int32))) (ne_a0_a1 : a0 ≠ a1) :
    MetFree l (⟨"com/example/oversee/oversee/model/Action", "equals", "(Ljava/lang/Object;)Z"⟩ : MethodName) (head1 (Jvm.Cond.code (⟨"com/example/oversee/oversee/model/Action", "equals", "(Ljava/lang/Object;)Z"⟩ : MethodName) prog_16_method_7_code 3 (some .boolean) :: ws) ({ frames := 2, cells := 0, slots := 0, locals := 28 } : Room)) (fun a U => a = #[(.ref a0), (.ref a1)] ∧ Z.Warmed39 U.vm ∧ U.heap = h0) (fun _ _ _ _ _ => True) (fun _ U o U' => ∃ v L, o = .returned v ∧ Q11_y Z a0 a1 xs0 xr0 xm0 xs1 xr1 xm1 gc1 d0 s0 ts0 k_ts0 r0 tr0 k_tr0 m0 tm0 k_tm0 d1 s1 ts1 k_ts1 r1 tr1 k_tr1 m1 tm1 k_tm1 h0 n0 v U'.heap L ∧ FrameEnd U o U' L ({ frames := 2, cells := 0, slots := 0, locals := 28 } : Room).cells ({ frames := 2, cells := 0, slots := 0, locals := 28 } : Room).slots) := by
  refine MetFree.of_bodySF (plainFor_of_name pn_2) hisR ?_
  intro p e s m args below meth c s₁ Bd hml0 hP hK
  obtain ⟨rfl, hZ, hh⟩ := hP
  have hx := Bd.exec
  have hby := Bd.bytes
  have hml : c.maxLocals = 3 := hml0
  have hown : s.vm.findClass "com/example/oversee/oversee/model/Action" = some m.cls := by have q := findClass_of_methodNamed Bd.named; exact q
  have hnm := (name_of_methodNamed Bd.named Bd.method).1
  have X0 : Stand p l e ({ frames := 2, cells := 0, slots := 0, locals := 28 } : Room) s m #[(.ref a0), (.ref a1)] below meth c s₁ [] 0 0 := Stand.of_body Bd
  have e0 : s₁.heap = h0 := by rw [← hh, Bd.state]; rfl
  have N0 := Fr.nil n0
  have pre0 : ∀ t, Steps p.tables e below (s₁.setTop (mkF m 0 #[.val (.ref a0), .val (.ref a1), .unset] [])) t → Steps p.tables e below (s₁.setTop (entryFrame m #[(.ref a0), (.ref a1)] 3)) t := fun t k => castTop (ef_11 m a0 a1) k
  have pre141 : ∀ t, Steps p.tables e below (s₁.setTop (mkF m 8 #[.val (.ref a0), .val (.ref a1), .unset] [(.ref a1)])) t → Steps p.tables e below (s₁.setTop (entryFrame m #[(.ref a0), (.ref a1)] 3)) t := by
    intro t k
    refine pre0 t ?_
    show Steps p.tables e below (s₁.setTop (mkF m 0 #[.val (.ref a0), .val (.ref a1), .unset] [])) _
    refine XS.aloadN X0.here hx rfl (hb hby d11_0) rfl rfl ?_
    refine XS.aloadN X0.here hx rfl (hb hby d11_1) rfl rfl ?_
    refine Jvm.RoadKit.acmp (g := (mkF m 2 #[.val (.ref a0), .val (.ref a1), .unset] [(.ref a1), (.ref a0)])) X0 hx rfl rfl rfl (pc0 := 2) (pc' := 7) (same := false) rfl (hb hby d11_2) rfl (decide_eq_false fun q => ne_a0_a1 (Value.ref.inj q)) (by decide) (by decide) ?_
    refine XS.aloadN X0.here hx rfl (hb hby d11_7) rfl rfl ?_
    exact k
  obtain ⟨T142, X142, e142, st142⟩ := instY X0 hx hZ hown (hw _ (List.mem_of_getElem? (i := 73) rfl)) e0 (Ins.self E_a1) (g := (mkF m 8 #[.val (.ref a0), .val (.ref a1), .unset] [(.ref a1)])) rfl rfl (hb hby d11_8)
  have pre143 : ∀ t, Steps p.tables e below (T142.setTop (mkF m 11 #[.val (.ref a0), .val (.ref a1), .unset] [(.int (1 : Int32))])) t → Steps p.tables e below (s₁.setTop (entryFrame m #[(.ref a0), (.ref a1)] 3)) t := fun t k => pre141 t (st142 t k)
  have pre144 : ∀ t, Steps p.tables e below (T142.setTop (mkF m 15 #[.val (.ref a0), .val (.ref a1), .unset] [(.ref a1)])) t → Steps p.tables e below (s₁.setTop (entryFrame m #[(.ref a0), (.ref a1)] 3)) t := by
    intro t k
    refine pre143 t ?_
    show Steps p.tables e below (T142.setTop (mkF m 11 #[.val (.ref a0), .val (.ref a1), .unset] [(.int (1 : Int32))])) _
    refine XS.ifNo X142.here hx rfl (hb hby d11_11) rfl ((if0 _ _).trans (feq (by decide : ¬ (1 : Int32) = (0 : Int32))).1) ?_
    refine XS.aloadN X142.here hx rfl (hb hby d11_14) rfl rfl ?_
    exact k
  obtain ⟨T145, X145, e145, st145⟩ := castY X142 hx hZ hown (hw _ (List.mem_of_getElem? (i := 73) rfl)) e142 (Ins.self E_a1) (g := (mkF m 15 #[.val (.ref a0), .val (.ref a1), .unset] [(.ref a1)])) rfl rfl (hb hby d11_15)
  have pre146 : ∀ t, Steps p.tables e below (T145.setTop (mkF m 18 #[.val (.ref a0), .val (.ref a1), .unset] [(.ref a1)])) t → Steps p.tables e below (s₁.setTop (entryFrame m #[(.ref a0), (.ref a1)] 3)) t := fun t k => pre144 t (st145 t k)
  have pre147 : ∀ t, Steps p.tables e below (T145.setTop (mkF m 25 #[.val (.ref a0), .val (.ref a1), .val (.ref a1)] [(.ref a0)])) t → Steps p.tables e below (s₁.setTop (entryFrame m #[(.ref a0), (.ref a1)] 3)) t := by
    intro t k
    refine pre146 t ?_
    show Steps p.tables e below (T145.setTop (mkF m 18 #[.val (.ref a0), .val (.ref a1), .unset] [(.ref a1)])) _
    refine XS.astoreN X145.here hx rfl (hb hby d11_18) rfl rfl (l' := #[.val (.ref a0), .val (.ref a1), .val (.ref a1)]) rfl ?_
    refine XS.goto X145.here hx rfl (pc0 := 19) (pc' := 24) rfl (hb hby d11_19) (by decide) (by decide) ?_
    refine XS.aloadN X145.here hx rfl (hb hby d11_24) rfl rfl ?_
    exact k
  obtain ⟨T148, X148, e148, st148⟩ := getF X145 hx hZ hown (host := "") (Or.inl (hw _ (List.mem_of_getElem? (i := 55) rfl))) Via.refl e145 F_sender_a0 (g := (mkF m 25 #[.val (.ref a0), .val (.ref a1), .val (.ref a1)] [(.ref a0)])) rfl rfl (hb hby d11_25)
  have pre149 : ∀ t, Steps p.tables e below (T148.setTop (mkF m 28 #[.val (.ref a0), .val (.ref a1), .val (.ref a1)] [(.ref s0)])) t → Steps p.tables e below (s₁.setTop (entryFrame m #[(.ref a0), (.ref a1)] 3)) t := fun t k => pre147 t (st148 t k)
  have pre150 : ∀ t, Steps p.tables e below (T148.setTop (mkF m 29 #[.val (.ref a0), .val (.ref a1), .val (.ref a1)] [(.ref a1), (.ref s0)])) t → Steps p.tables e below (s₁.setTop (entryFrame m #[(.ref a0), (.ref a1)] 3)) t := by
    intro t k
    refine pre149 t ?_
    show Steps p.tables e below (T148.setTop (mkF m 28 #[.val (.ref a0), .val (.ref a1), .val (.ref a1)] [(.ref s0)])) _
    refine XS.aloadN X148.here hx rfl (hb hby d11_28) rfl rfl ?_
    exact k
  obtain ⟨T151, X151, e151, st151⟩ := getF X148 hx hZ hown (host := "") (Or.inl (hw _ (List.mem_of_getElem? (i := 55) rfl))) Via.refl e148 F_sender_a1 (g := (mkF m 29 #[.val (.ref a0), .val (.ref a1), .val (.ref a1)] [(.ref a1), (.ref s0)])) rfl rfl (hb hby d11_29)
  have pre152 : ∀ t, Steps p.tables e below (T151.setTop (mkF m 32 #[.val (.ref a0), .val (.ref a1), .val (.ref a1)] [(.ref s1), (.ref s0)])) t → Steps p.tables e below (s₁.setTop (entryFrame m #[(.ref a0), (.ref a1)] 3)) t := fun t k => pre150 t (st151 t k)
  obtain ⟨cq153, kq153, q153a, q153b, q153c⟩ := isOf hZ e151 E_s0
  obtain ⟨_, _, ⟨T153, L153, k153, n153⟩, -, X153, ⟨Lc153, hQ153, l153, y153, z153⟩, st153⟩ := X151.virtualBack hx (y := (⟨"java/lang/String", "equals", "(Ljava/lang/Object;)Z"⟩ : MethodName)) (z := (⟨"java/lang/String", "equals", "(Ljava/lang/Object;)Z"⟩ : MethodName)) hown (mvT hZ (hw _ (List.mem_of_getElem? (i := 75) rfl))) (mvT hZ (hw _ (List.mem_of_getElem? (i := 76) rfl))) (notFace_of_selects (args := #[]) (mvT hZ (hw _ (List.mem_of_getElem? (i := 78) rfl)))) (mvT hZ (hw _ (List.mem_of_getElem? (i := 78) rfl))) (mvT hZ (hw _ (List.mem_of_getElem? (i := 77) rfl))) (by decide) (StrChars.Road.eqW (W := 0) hZ (own_wordsEq hw) (kI := 4) (hw _ (List.mem_of_getElem? (i := 9) rfl)) E_s0 F_value_s0 F_coder_s0 B_ts0 (own_hcd xs0) (own_hbd xs0) (Nat.le_of_ble_eq_true rfl) E_s1 F_value_s1 F_coder_s1 B_ts1 (own_hcd xs1) (own_hbd xs1) (Nat.le_of_ble_eq_true rfl) S_COMPACT_STRINGS P5 (by decide) (by decide)) q153a q153c (g := (mkF m 32 #[.val (.ref a0), .val (.ref a1), .val (.ref a1)] [(.ref s1), (.ref s0)])) rfl (by rw [hml]; rfl) (Steps.refl _) (argsL := [(.ref s1)]) (rest := []) (lenOf pd_2 rfl) rfl (by show 2 * 0 + _ ≤ _; exact Nat.le_of_eq rfl) (hb hby d11_32) (fun _ _ => ⟨rfl, e151, (by decide : 0 + 0 ≤ _), (by decide : 0 + 0 ≤ _)⟩)
  dsimp only [Pt.U, Pt.locs, Pt.cells, Pt.slots] at X153 l153 y153 z153 st153 hQ153
  subst l153 y153 z153
  obtain ⟨q153, rfl, e153⟩ := hQ153
  obtain rfl := own_eqv q153
  try rw [List.append_nil] at X153
  have pre154 : ∀ t, Steps p.tables e below (T153.setTop (mkF m 35 #[.val (.ref a0), .val (.ref a1), .val (.ref a1)] [(.int (own_eq xs0 xs1))])) t → Steps p.tables e below (s₁.setTop (entryFrame m #[(.ref a0), (.ref a1)] 3)) t := fun t k => pre152 t (st153.trans k)
  by_cases hc35_155 : (own_eq xs0 xs1) = (0 : Int32)
  · obtain ⟨fs, hr, hrun, hended, hW, hsame⟩ := X153.leave (v := some (.int (0 : Int32))) (fun h => by rw [Bd.returns] at h; cases h)
    refine ⟨_, _, pre154 _ ?_, hrun, hended, _, _, rfl, ?_, ⟨_, rfl⟩, hW, hsame.mono (by decide) (by decide)⟩
    · show Steps p.tables e below (T153.setTop (mkF m 35 #[.val (.ref a0), .val (.ref a1), .val (.ref a1)] [(.int (own_eq xs0 xs1))])) _
      refine XS.ifYes X153.here hx rfl (pc0 := 35) (pc' := 81) rfl (hb hby d11_35) rfl ((if0 _ _).trans (teq hc35_155).1) (by decide) (by decide) ?_
      refine XS.iconst X153.here hx rfl (hb hby d11_81) ?_
      exact retN X153 hx (t := .boolean) Bd.returns (by simp) (hb hby d11_82) hr
    · show Q11_y Z a0 a1 xs0 xr0 xm0 xs1 xr1 xm1 gc1 d0 s0 ts0 k_ts0 r0 tr0 k_tr0 m0 tm0 k_tm0 d1 s1 ts1 k_ts1 r1 tr1 k_tr1 m1 tm1 k_tm1 h0 n0 _ T153.heap _
      rw [e153]
      exact ⟨by unfold f11_y; rw [if_pos hc35_155], N0, rfl⟩
  · have pre156 : ∀ t, Steps p.tables e below (T153.setTop (mkF m 39 #[.val (.ref a0), .val (.ref a1), .val (.ref a1)] [(.ref a0)])) t → Steps p.tables e below (s₁.setTop (entryFrame m #[(.ref a0), (.ref a1)] 3)) t := by
      intro t k
      refine pre154 t ?_
      show Steps p.tables e below (T153.setTop (mkF m 35 #[.val (.ref a0), .val (.ref a1), .val (.ref a1)] [(.int (own_eq xs0 xs1))])) _
      refine XS.ifNo X153.here hx rfl (hb hby d11_35) rfl ((if0 _ _).trans (feq hc35_155).1) ?_
      refine XS.aloadN X153.here hx rfl (hb hby d11_38) rfl rfl ?_
      exact k
    obtain ⟨T157, X157, e157, st157⟩ := getF X153 hx hZ hown (host := "") (Or.inl (hw _ (List.mem_of_getElem? (i := 58) rfl))) Via.refl e153 F_receiver_a0 (g := (mkF m 39 #[.val (.ref a0), .val (.ref a1), .val (.ref a1)] [(.ref a0)])) rfl rfl (hb hby d11_39)
    have pre158 : ∀ t, Steps p.tables e below (T157.setTop (mkF m 42 #[.val (.ref a0), .val (.ref a1), .val (.ref a1)] [(.ref r0)])) t → Steps p.tables e below (s₁.setTop (entryFrame m #[(.ref a0), (.ref a1)] 3)) t := fun t k => pre156 t (st157 t k)
    have pre159 : ∀ t, Steps p.tables e below (T157.setTop (mkF m 43 #[.val (.ref a0), .val (.ref a1), .val (.ref a1)] [(.ref a1), (.ref r0)])) t → Steps p.tables e below (s₁.setTop (entryFrame m #[(.ref a0), (.ref a1)] 3)) t := by
      intro t k
      refine pre158 t ?_
      show Steps p.tables e below (T157.setTop (mkF m 42 #[.val (.ref a0), .val (.ref a1), .val (.ref a1)] [(.ref r0)])) _
      refine XS.aloadN X157.here hx rfl (hb hby d11_42) rfl rfl ?_
      exact k
    obtain ⟨T160, X160, e160, st160⟩ := getF X157 hx hZ hown (host := "") (Or.inl (hw _ (List.mem_of_getElem? (i := 58) rfl))) Via.refl e157 F_receiver_a1 (g := (mkF m 43 #[.val (.ref a0), .val (.ref a1), .val (.ref a1)] [(.ref a1), (.ref r0)])) rfl rfl (hb hby d11_43)
    have pre161 : ∀ t, Steps p.tables e below (T160.setTop (mkF m 46 #[.val (.ref a0), .val (.ref a1), .val (.ref a1)] [(.ref r1), (.ref r0)])) t → Steps p.tables e below (s₁.setTop (entryFrame m #[(.ref a0), (.ref a1)] 3)) t := fun t k => pre159 t (st160 t k)
    obtain ⟨cq162, kq162, q162a, q162b, q162c⟩ := isOf hZ e160 E_r0
    obtain ⟨_, _, ⟨T162, L162, k162, n162⟩, -, X162, ⟨Lc162, hQ162, l162, y162, z162⟩, st162⟩ := X160.virtualBack hx (y := (⟨"java/lang/String", "equals", "(Ljava/lang/Object;)Z"⟩ : MethodName)) (z := (⟨"java/lang/String", "equals", "(Ljava/lang/Object;)Z"⟩ : MethodName)) hown (mvT hZ (hw _ (List.mem_of_getElem? (i := 75) rfl))) (mvT hZ (hw _ (List.mem_of_getElem? (i := 76) rfl))) (notFace_of_selects (args := #[]) (mvT hZ (hw _ (List.mem_of_getElem? (i := 78) rfl)))) (mvT hZ (hw _ (List.mem_of_getElem? (i := 78) rfl))) (mvT hZ (hw _ (List.mem_of_getElem? (i := 77) rfl))) (by decide) (StrChars.Road.eqW (W := 0) hZ (own_wordsEq hw) (kI := 4) (hw _ (List.mem_of_getElem? (i := 9) rfl)) E_r0 F_value_r0 F_coder_r0 B_tr0 (own_hcd xr0) (own_hbd xr0) (Nat.le_of_ble_eq_true rfl) E_r1 F_value_r1 F_coder_r1 B_tr1 (own_hcd xr1) (own_hbd xr1) (Nat.le_of_ble_eq_true rfl) S_COMPACT_STRINGS P5 (by decide) (by decide)) q162a q162c (g := (mkF m 46 #[.val (.ref a0), .val (.ref a1), .val (.ref a1)] [(.ref r1), (.ref r0)])) rfl (by rw [hml]; rfl) (Steps.refl _) (argsL := [(.ref r1)]) (rest := []) (lenOf pd_2 rfl) rfl (by show 2 * 0 + _ ≤ _; exact Nat.le_of_eq rfl) (hb hby d11_46) (fun _ _ => ⟨rfl, e160, (by decide : 0 + 0 ≤ _), (by decide : 0 + 0 ≤ _)⟩)
    dsimp only [Pt.U, Pt.locs, Pt.cells, Pt.slots] at X162 l162 y162 z162 st162 hQ162
    subst l162 y162 z162
    obtain ⟨q162, rfl, e162⟩ := hQ162
    obtain rfl := own_eqv q162
    try rw [List.append_nil] at X162
    have pre163 : ∀ t, Steps p.tables e below (T162.setTop (mkF m 49 #[.val (.ref a0), .val (.ref a1), .val (.ref a1)] [(.int (own_eq xr0 xr1))])) t → Steps p.tables e below (s₁.setTop (entryFrame m #[(.ref a0), (.ref a1)] 3)) t := fun t k => pre161 t (st162.trans k)
    by_cases hc49_164 : (own_eq xr0 xr1) = (0 : Int32)
    · obtain ⟨fs, hr, hrun, hended, hW, hsame⟩ := X162.leave (v := some (.int (0 : Int32))) (fun h => by rw [Bd.returns] at h; cases h)
      refine ⟨_, _, pre163 _ ?_, hrun, hended, _, _, rfl, ?_, ⟨_, rfl⟩, hW, hsame.mono (by decide) (by decide)⟩
      · show Steps p.tables e below (T162.setTop (mkF m 49 #[.val (.ref a0), .val (.ref a1), .val (.ref a1)] [(.int (own_eq xr0 xr1))])) _
        refine XS.ifYes X162.here hx rfl (pc0 := 49) (pc' := 81) rfl (hb hby d11_49) rfl ((if0 _ _).trans (teq hc49_164).1) (by decide) (by decide) ?_
        refine XS.iconst X162.here hx rfl (hb hby d11_81) ?_
        exact retN X162 hx (t := .boolean) Bd.returns (by simp) (hb hby d11_82) hr
      · show Q11_y Z a0 a1 xs0 xr0 xm0 xs1 xr1 xm1 gc1 d0 s0 ts0 k_ts0 r0 tr0 k_tr0 m0 tm0 k_tm0 d1 s1 ts1 k_ts1 r1 tr1 k_tr1 m1 tm1 k_tm1 h0 n0 _ T162.heap _
        rw [e162]
        exact ⟨by unfold f11_y; rw [if_neg hc35_155, if_pos hc49_164], N0, rfl⟩
    · have pre165 : ∀ t, Steps p.tables e below (T162.setTop (mkF m 53 #[.val (.ref a0), .val (.ref a1), .val (.ref a1)] [(.ref a0)])) t → Steps p.tables e below (s₁.setTop (entryFrame m #[(.ref a0), (.ref a1)] 3)) t := by
        intro t k
        refine pre163 t ?_
        show Steps p.tables e below (T162.setTop (mkF m 49 #[.val (.ref a0), .val (.ref a1), .val (.ref a1)] [(.int (own_eq xr0 xr1))])) _
        refine XS.ifNo X162.here hx rfl (hb hby d11_49) rfl ((if0 _ _).trans (feq hc49_164).1) ?_
        refine XS.aloadN X162.here hx rfl (hb hby d11_52) rfl rfl ?_
        exact k
      obtain ⟨T166, X166, e166, st166⟩ := getF X162 hx hZ hown (host := "") (Or.inl (hw _ (List.mem_of_getElem? (i := 63) rfl))) Via.refl e162 F_direction_a0 (g := (mkF m 53 #[.val (.ref a0), .val (.ref a1), .val (.ref a1)] [(.ref a0)])) rfl rfl (hb hby d11_53)
      have pre167 : ∀ t, Steps p.tables e below (T166.setTop (mkF m 56 #[.val (.ref a0), .val (.ref a1), .val (.ref a1)] [(.ref d0)])) t → Steps p.tables e below (s₁.setTop (entryFrame m #[(.ref a0), (.ref a1)] 3)) t := fun t k => pre165 t (st166 t k)
      have pre168 : ∀ t, Steps p.tables e below (T166.setTop (mkF m 57 #[.val (.ref a0), .val (.ref a1), .val (.ref a1)] [(.ref a1), (.ref d0)])) t → Steps p.tables e below (s₁.setTop (entryFrame m #[(.ref a0), (.ref a1)] 3)) t := by
        intro t k
        refine pre167 t ?_
        show Steps p.tables e below (T166.setTop (mkF m 56 #[.val (.ref a0), .val (.ref a1), .val (.ref a1)] [(.ref d0)])) _
        refine XS.aloadN X166.here hx rfl (hb hby d11_56) rfl rfl ?_
        exact k
      obtain ⟨T169, X169, e169, st169⟩ := getF X166 hx hZ hown (host := "") (Or.inl (hw _ (List.mem_of_getElem? (i := 63) rfl))) Via.refl e166 F_direction_a1 (g := (mkF m 57 #[.val (.ref a0), .val (.ref a1), .val (.ref a1)] [(.ref a1), (.ref d0)])) rfl rfl (hb hby d11_57)
      have pre170 : ∀ t, Steps p.tables e below (T169.setTop (mkF m 60 #[.val (.ref a0), .val (.ref a1), .val (.ref a1)] [(.ref d1), (.ref d0)])) t → Steps p.tables e below (s₁.setTop (entryFrame m #[(.ref a0), (.ref a1)] 3)) t := fun t k => pre168 t (st169 t k)
      by_cases hc60_171 : d0 = d1
      · have pre172 : ∀ t, Steps p.tables e below (T169.setTop (mkF m 64 #[.val (.ref a0), .val (.ref a1), .val (.ref a1)] [(.ref a0)])) t → Steps p.tables e below (s₁.setTop (entryFrame m #[(.ref a0), (.ref a1)] 3)) t := by
          intro t k
          refine pre170 t ?_
          show Steps p.tables e below (T169.setTop (mkF m 60 #[.val (.ref a0), .val (.ref a1), .val (.ref a1)] [(.ref d1), (.ref d0)])) _
          refine Jvm.RoadKit.acmp (g := (mkF m 60 #[.val (.ref a0), .val (.ref a1), .val (.ref a1)] [(.ref d1), (.ref d0)])) X169 hx rfl rfl rfl (pc0 := 60) (pc' := 63) (same := true) rfl (hb hby d11_60) rfl (decide_eq_true (congrArg Value.ref hc60_171)) (by decide) (by decide) ?_
          refine XS.aloadN X169.here hx rfl (hb hby d11_63) rfl rfl ?_
          exact k
        obtain ⟨T173, X173, e173, st173⟩ := getF X169 hx hZ hown (host := "") (Or.inl (hw _ (List.mem_of_getElem? (i := 66) rfl))) Via.refl e169 F_message_a0 (g := (mkF m 64 #[.val (.ref a0), .val (.ref a1), .val (.ref a1)] [(.ref a0)])) rfl rfl (hb hby d11_64)
        have pre174 : ∀ t, Steps p.tables e below (T173.setTop (mkF m 67 #[.val (.ref a0), .val (.ref a1), .val (.ref a1)] [(.ref m0)])) t → Steps p.tables e below (s₁.setTop (entryFrame m #[(.ref a0), (.ref a1)] 3)) t := fun t k => pre172 t (st173 t k)
        have pre175 : ∀ t, Steps p.tables e below (T173.setTop (mkF m 68 #[.val (.ref a0), .val (.ref a1), .val (.ref a1)] [(.ref a1), (.ref m0)])) t → Steps p.tables e below (s₁.setTop (entryFrame m #[(.ref a0), (.ref a1)] 3)) t := by
          intro t k
          refine pre174 t ?_
          show Steps p.tables e below (T173.setTop (mkF m 67 #[.val (.ref a0), .val (.ref a1), .val (.ref a1)] [(.ref m0)])) _
          refine XS.aloadN X173.here hx rfl (hb hby d11_67) rfl rfl ?_
          exact k
        obtain ⟨T176, X176, e176, st176⟩ := getF X173 hx hZ hown (host := "") (Or.inl (hw _ (List.mem_of_getElem? (i := 66) rfl))) Via.refl e173 F_message_a1 (g := (mkF m 68 #[.val (.ref a0), .val (.ref a1), .val (.ref a1)] [(.ref a1), (.ref m0)])) rfl rfl (hb hby d11_68)
        have pre177 : ∀ t, Steps p.tables e below (T176.setTop (mkF m 71 #[.val (.ref a0), .val (.ref a1), .val (.ref a1)] [(.ref m1), (.ref m0)])) t → Steps p.tables e below (s₁.setTop (entryFrame m #[(.ref a0), (.ref a1)] 3)) t := fun t k => pre175 t (st176 t k)
        obtain ⟨cq178, kq178, q178a, q178b, q178c⟩ := isOf hZ e176 E_m0
        obtain ⟨_, _, ⟨T178, L178, k178, n178⟩, -, X178, ⟨Lc178, hQ178, l178, y178, z178⟩, st178⟩ := X176.virtualBack hx (y := (⟨"java/lang/String", "equals", "(Ljava/lang/Object;)Z"⟩ : MethodName)) (z := (⟨"java/lang/String", "equals", "(Ljava/lang/Object;)Z"⟩ : MethodName)) hown (mvT hZ (hw _ (List.mem_of_getElem? (i := 75) rfl))) (mvT hZ (hw _ (List.mem_of_getElem? (i := 76) rfl))) (notFace_of_selects (args := #[]) (mvT hZ (hw _ (List.mem_of_getElem? (i := 78) rfl)))) (mvT hZ (hw _ (List.mem_of_getElem? (i := 78) rfl))) (mvT hZ (hw _ (List.mem_of_getElem? (i := 77) rfl))) (by decide) (StrChars.Road.eqW (W := 0) hZ (own_wordsEq hw) (kI := 4) (hw _ (List.mem_of_getElem? (i := 9) rfl)) E_m0 F_value_m0 F_coder_m0 B_tm0 (own_hcd xm0) (own_hbd xm0) (Nat.le_of_ble_eq_true rfl) E_m1 F_value_m1 F_coder_m1 B_tm1 (own_hcd xm1) (own_hbd xm1) (Nat.le_of_ble_eq_true rfl) S_COMPACT_STRINGS P5 (by decide) (by decide)) q178a q178c (g := (mkF m 71 #[.val (.ref a0), .val (.ref a1), .val (.ref a1)] [(.ref m1), (.ref m0)])) rfl (by rw [hml]; rfl) (Steps.refl _) (argsL := [(.ref m1)]) (rest := []) (lenOf pd_2 rfl) rfl (by show 2 * 0 + _ ≤ _; exact Nat.le_of_eq rfl) (hb hby d11_71) (fun _ _ => ⟨rfl, e176, (by decide : 0 + 0 ≤ _), (by decide : 0 + 0 ≤ _)⟩)
        dsimp only [Pt.U, Pt.locs, Pt.cells, Pt.slots] at X178 l178 y178 z178 st178 hQ178
        subst l178 y178 z178
        obtain ⟨q178, rfl, e178⟩ := hQ178
        obtain rfl := own_eqv q178
        try rw [List.append_nil] at X178
        have pre179 : ∀ t, Steps p.tables e below (T178.setTop (mkF m 74 #[.val (.ref a0), .val (.ref a1), .val (.ref a1)] [(.int (own_eq xm0 xm1))])) t → Steps p.tables e below (s₁.setTop (entryFrame m #[(.ref a0), (.ref a1)] 3)) t := fun t k => pre177 t (st178.trans k)
        by_cases hc74_180 : (own_eq xm0 xm1) = (0 : Int32)
        · obtain ⟨fs, hr, hrun, hended, hW, hsame⟩ := X178.leave (v := some (.int (0 : Int32))) (fun h => by rw [Bd.returns] at h; cases h)
          refine ⟨_, _, pre179 _ ?_, hrun, hended, _, _, rfl, ?_, ⟨_, rfl⟩, hW, hsame.mono (by decide) (by decide)⟩
          · show Steps p.tables e below (T178.setTop (mkF m 74 #[.val (.ref a0), .val (.ref a1), .val (.ref a1)] [(.int (own_eq xm0 xm1))])) _
            refine XS.ifYes X178.here hx rfl (pc0 := 74) (pc' := 81) rfl (hb hby d11_74) rfl ((if0 _ _).trans (teq hc74_180).1) (by decide) (by decide) ?_
            refine XS.iconst X178.here hx rfl (hb hby d11_81) ?_
            exact retN X178 hx (t := .boolean) Bd.returns (by simp) (hb hby d11_82) hr
          · show Q11_y Z a0 a1 xs0 xr0 xm0 xs1 xr1 xm1 gc1 d0 s0 ts0 k_ts0 r0 tr0 k_tr0 m0 tm0 k_tm0 d1 s1 ts1 k_ts1 r1 tr1 k_tr1 m1 tm1 k_tm1 h0 n0 _ T178.heap _
            rw [e178]
            exact ⟨by unfold f11_y; rw [if_neg hc35_155, if_neg hc49_164, if_pos hc60_171, if_pos hc74_180], N0, rfl⟩
        · obtain ⟨fs, hr, hrun, hended, hW, hsame⟩ := X178.leave (v := some (.int (1 : Int32))) (fun h => by rw [Bd.returns] at h; cases h)
          refine ⟨_, _, pre179 _ ?_, hrun, hended, _, _, rfl, ?_, ⟨_, rfl⟩, hW, hsame.mono (by decide) (by decide)⟩
          · show Steps p.tables e below (T178.setTop (mkF m 74 #[.val (.ref a0), .val (.ref a1), .val (.ref a1)] [(.int (own_eq xm0 xm1))])) _
            refine XS.ifNo X178.here hx rfl (hb hby d11_74) rfl ((if0 _ _).trans (feq hc74_180).1) ?_
            refine XS.iconst X178.here hx rfl (hb hby d11_77) ?_
            refine XS.goto X178.here hx rfl (pc0 := 78) (pc' := 82) rfl (hb hby d11_78) (by decide) (by decide) ?_
            exact retN X178 hx (t := .boolean) Bd.returns (by simp) (hb hby d11_82) hr
          · show Q11_y Z a0 a1 xs0 xr0 xm0 xs1 xr1 xm1 gc1 d0 s0 ts0 k_ts0 r0 tr0 k_tr0 m0 tm0 k_tm0 d1 s1 ts1 k_ts1 r1 tr1 k_tr1 m1 tm1 k_tm1 h0 n0 _ T178.heap _
            rw [e178]
            exact ⟨by unfold f11_y; rw [if_neg hc35_155, if_neg hc49_164, if_pos hc60_171, if_neg hc74_180], N0, rfl⟩
      · obtain ⟨fs, hr, hrun, hended, hW, hsame⟩ := X169.leave (v := some (.int (0 : Int32))) (fun h => by rw [Bd.returns] at h; cases h)
        refine ⟨_, _, pre170 _ ?_, hrun, hended, _, _, rfl, ?_, ⟨_, rfl⟩, hW, hsame.mono (by decide) (by decide)⟩
        · show Steps p.tables e below (T169.setTop (mkF m 60 #[.val (.ref a0), .val (.ref a1), .val (.ref a1)] [(.ref d1), (.ref d0)])) _
          refine Jvm.RoadKit.acmp (g := (mkF m 60 #[.val (.ref a0), .val (.ref a1), .val (.ref a1)] [(.ref d1), (.ref d0)])) X169 hx rfl rfl rfl (pc0 := 60) (pc' := 81) (same := false) rfl (hb hby d11_60) rfl (decide_eq_false fun q => hc60_171 (Value.ref.inj q)) (by decide) (by decide) ?_
          refine XS.iconst X169.here hx rfl (hb hby d11_81) ?_
          exact retN X169 hx (t := .boolean) Bd.returns (by simp) (hb hby d11_82) hr
        · show Q11_y Z a0 a1 xs0 xr0 xm0 xs1 xr1 xm1 gc1 d0 s0 ts0 k_ts0 r0 tr0 k_tr0 m0 tm0 k_tm0 d1 s1 ts1 k_ts1 r1 tr1 k_tr1 m1 tm1 k_tm1 h0 n0 _ T169.heap _
          rw [e169]
          exact ⟨by unfold f11_y; rw [if_neg hc35_155, if_neg hc49_164, if_neg hc60_171], N0, rfl⟩
theorem own_B1 {v z : Int32} (h : v = z &&& (255 : Int32)) : v &&& (255 : Int32) = v := by rw [h]; exact own_mm z
theorem own_B2 {v z w : Int32} {c : Prop} [Decidable c] (h : v = if c then z &&& (255 : Int32) else w) (hw : w &&& (255 : Int32) = w) : v &&& (255 : Int32) = v := by
  by_cases q : c
  · rw [if_pos q] at h; exact own_B1 h
  · rw [if_neg q] at h; rw [h]; exact hw
theorem own_D1 {v z : Int32} (h : v = z &&& (1 : Int32)) : v = 0 ∨ v = 1 := by
  have e1 : (z &&& 1).toInt = z.toInt % 2 ^ 1 := Jvm.Kit.i32_mask z 1 (k := 1) (by decide) (by decide)
  obtain ⟨k, e⟩ := own_small 2 (by decide) (z &&& 1) (by omega) (by omega)
  have : k = 0 ∨ k = 1 := by omega
  rw [h, e]
  rcases this with rfl | rfl
  · exact Or.inl rfl
  · exact Or.inr rfl
theorem own_D2 {v z w : Int32} {c : Prop} [Decidable c] (h : v = if c then z &&& (1 : Int32) else w) (hw : w = 0 ∨ w = 1) : v = 0 ∨ v = 1 := by
  by_cases q : c
  · rw [if_pos q] at h; exact own_D1 h
  · rw [if_neg q] at h; rw [h]; exact hw
theorem own_eqB {x y : Int32} (hx : x &&& (255 : Int32) = x) (hy : y &&& (255 : Int32) = y) : own_eq x y = if x = y then 1 else 0 := by
  unfold own_eq; rw [own_chv, own_chv, hx, hy]
theorem own_dd {d d' : Int32} {S R o o' : Addr} (hne : S ≠ R) (h : d = 0 ∨ d = 1) (h' : d' = 0 ∨ d' = 1) (ho : o = f8 d R S) (ho' : o' = f8 d' R S) : o = o' ↔ d = d' := by
  have z0 : f8 0 R S = R := if_pos (by decide)
  have z1 : f8 1 R S = S := if_neg (by decide)
  rw [ho, ho']
  rcases h with rfl | rfl
  · rcases h' with rfl | rfl
    · exact ⟨fun _ => rfl, fun _ => rfl⟩
    · rw [z0, z1]; exact ⟨fun q => absurd q.symm hne, fun q => absurd q (by decide)⟩
  · rcases h' with rfl | rfl
    · rw [z0, z1]; exact ⟨fun q => absurd q hne, fun q => absurd q (by decide)⟩
    · exact ⟨fun _ => rfl, fun _ => rfl⟩
theorem own_key {a b c a' b' c' d d' : Int32} {o o' : Addr} (ha : a &&& (255 : Int32) = a) (hb : b &&& (255 : Int32) = b) (hc : c &&& (255 : Int32) = c) (ha' : a' &&& (255 : Int32) = a') (hb' : b' &&& (255 : Int32) = b') (hc' : c' &&& (255 : Int32) = c') (hd : o = o' ↔ d = d') :
    f11_y a b c a' b' c' o o' = (if a = a' then (if b = b' then (if d = d' then (if c = c' then (1 : Int32) else (0 : Int32)) else (0 : Int32)) else (0 : Int32)) else (0 : Int32)) := by
  have k0 : ((1 : Int32) = 0) = False := by decide
  unfold f11_y
  rw [own_eqB ha ha', own_eqB hb hb', own_eqB hc hc']
  by_cases h1 : a = a' <;> by_cases h2 : b = b' <;> by_cases h3 : d = d' <;> by_cases h4 : c = c' <;> simp [h1, h2, h3, h4, hd, k0]
theorem own_sy (a a' b b' c c' d d' : Int32) : (if a' = a then (if b' = b then (if d' = d then (if c' = c then (1 : Int32) else (0 : Int32)) else (0 : Int32)) else (0 : Int32)) else (0 : Int32)) = (if a = a' then (if b = b' then (if d = d' then (if c = c' then (1 : Int32) else (0 : Int32)) else (0 : Int32)) else (0 : Int32)) else (0 : Int32)) := by
  by_cases h1 : a = a'
  · subst h1
    by_cases h2 : b = b'
    · subst h2
      by_cases h3 : d = d'
      · subst h3
        by_cases h4 : c = c'
        · subst h4; rfl
        · simp [h4, Ne.symm h4]
      · simp [h3, Ne.symm h3]
    · simp [h2, Ne.symm h2]
  · rw [if_neg h1, if_neg (fun q => h1 q.symm)]

theorem pd_3 : parseMethodDescriptor "(I)Ljava/lang/String;" = some ⟨[.int], some (.object "java/lang/String")⟩ := by decide +kernel
theorem pd_4 : parseMethodDescriptor "(I)Lcom/example/oversee/oversee/model/Direction;" = some ⟨[.int], some (.object "com/example/oversee/oversee/model/Direction")⟩ := by decide +kernel
theorem pd_5 : parseMethodDescriptor "(Ljava/lang/String;Ljava/lang/String;Lcom/example/oversee/oversee/model/Direction;Ljava/lang/String;)V" = some ⟨[(.object "java/lang/String"), (.object "java/lang/String"), (.object "com/example/oversee/oversee/model/Direction"), (.object "java/lang/String")], none⟩ := by decide +kernel
theorem ef_0 (m : MethodId) (x0 : Int32) (x1 : Int32) (x2 : Int32) (x3 : Int32) : entryFrame m #[(.int x0), (.int x1), (.int x2), (.int x3)] maxLocals = mkF m 0 #[.val (.int x0), .val (.int x1), .val (.int x2), .val (.int x3), .unset, .unset, .unset, .unset, .unset, .unset, .unset, .unset, .unset, .unset, .unset, .unset, .unset] [] := by first | (simp [entryFrame, mkF, argsToLocals, Value.category, maxLocals]; done) | rfl
def Q0 (Z : State) (p0 : Int32) (p1 : Int32) (p2 : Int32) (p3 : Int32) (gc1 : Int32) (s_SEND : Addr) (s_RECEIVE : Addr) (h0 : Heap) (n0 : Nat) (v : Option Value) (h : Heap) (L : List Loc) : Prop := v = some (.int 1) ∧ Fr n0 L
theorem own_leaf1 {p0 : Int32} {p1 : Int32} {p2 : Int32} {p3 : Int32} {gc1 : Int32} {s_SEND : Addr} {s_RECEIVE : Addr} {v182 : Int32} {v188 : Int32} {v191 : Int32} {v197 : Int32} {v200 : Int32} {v206 : Int32} {v209 : Int32} {v215 : Int32} {o258 : Addr} {o398 : Addr} {v524 : Int32} {v554 : Int32} (hne : s_SEND ≠ s_RECEIVE) (P5 : ¬ (gc1 = (0 : Int32))) (hv182 : v182 = (p0 &&& (255 : Int32))) (hv188 : v188 = (if (p3 &&& (1 : Int32)) = (0 : Int32) then (((p0.toUInt32 >>> ((8 : Int32) &&& 31).toUInt32).toInt32) &&& (255 : Int32)) else v182)) (hv191 : v191 = (p1 &&& (255 : Int32))) (hv197 : v197 = (if (((p3.toUInt32 >>> ((1 : Int32) &&& 31).toUInt32).toInt32) &&& (1 : Int32)) = (0 : Int32) then (((p1.toUInt32 >>> ((8 : Int32) &&& 31).toUInt32).toInt32) &&& (255 : Int32)) else v191)) (hv200 : v200 = (p2 &&& (255 : Int32))) (hv206 : v206 = (if (((p3.toUInt32 >>> ((2 : Int32) &&& 31).toUInt32).toInt32) &&& (1 : Int32)) = (0 : Int32) then (((p2.toUInt32 >>> ((8 : Int32) &&& 31).toUInt32).toInt32) &&& (255 : Int32)) else v200)) (hv209 : v209 = (((p3.toUInt32 >>> ((3 : Int32) &&& 31).toUInt32).toInt32) &&& (1 : Int32))) (hv215 : v215 = (if (((p3.toUInt32 >>> ((4 : Int32) &&& 31).toUInt32).toInt32) &&& (1 : Int32)) = (0 : Int32) then (((p3.toUInt32 >>> ((5 : Int32) &&& 31).toUInt32).toInt32) &&& (1 : Int32)) else v209)) (ho258 : o258 = (f8 v209 s_RECEIVE s_SEND)) (ho398 : o398 = (f8 v215 s_RECEIVE s_SEND)) (hv524 : v524 = (((p3.toUInt32 >>> ((6 : Int32) &&& 31).toUInt32).toInt32) &&& (3 : Int32))) (hc191_527 : ¬ (v524 = (1 : Int32))) (hc205_532 : ¬ (v524 = (2 : Int32))) (hc226_537 : ¬ (v524 = (3 : Int32))) (hv554 : v554 = (if v182 = v188 then (if v191 = v197 then (if v209 = v215 then (if v200 = v206 then (1 : Int32) else (0 : Int32)) else (0 : Int32)) else (0 : Int32)) else (0 : Int32))) (hc289_560 : (f11_y v182 v191 v200 v188 v197 v206 o258 o398) = v554) (hc301_565 : ¬ ((f11_y v188 v197 v206 v182 v191 v200 o398 o258) = v554)) : False := by
  have A := own_B1 hv182
  have A' := own_B2 hv188 A
  have B := own_B1 hv191
  have B' := own_B2 hv197 B
  have C := own_B1 hv200
  have C' := own_B2 hv206 C
  have D := own_D1 hv209
  have D' := own_D2 hv215 D
  exact hc301_565 (by rw [hv554, own_key A' B' C' A B C (own_dd hne D' D ho398 ho258)]; exact own_sy _ _ _ _ _ _ _ _)
theorem own_leaf2 {p0 : Int32} {p1 : Int32} {p2 : Int32} {p3 : Int32} {gc1 : Int32} {s_SEND : Addr} {s_RECEIVE : Addr} {v182 : Int32} {v188 : Int32} {v191 : Int32} {v197 : Int32} {v200 : Int32} {v206 : Int32} {v209 : Int32} {v215 : Int32} {o258 : Addr} {o398 : Addr} {v524 : Int32} {v554 : Int32} (hne : s_SEND ≠ s_RECEIVE) (P5 : ¬ (gc1 = (0 : Int32))) (hv182 : v182 = (p0 &&& (255 : Int32))) (hv188 : v188 = (if (p3 &&& (1 : Int32)) = (0 : Int32) then (((p0.toUInt32 >>> ((8 : Int32) &&& 31).toUInt32).toInt32) &&& (255 : Int32)) else v182)) (hv191 : v191 = (p1 &&& (255 : Int32))) (hv197 : v197 = (if (((p3.toUInt32 >>> ((1 : Int32) &&& 31).toUInt32).toInt32) &&& (1 : Int32)) = (0 : Int32) then (((p1.toUInt32 >>> ((8 : Int32) &&& 31).toUInt32).toInt32) &&& (255 : Int32)) else v191)) (hv200 : v200 = (p2 &&& (255 : Int32))) (hv206 : v206 = (if (((p3.toUInt32 >>> ((2 : Int32) &&& 31).toUInt32).toInt32) &&& (1 : Int32)) = (0 : Int32) then (((p2.toUInt32 >>> ((8 : Int32) &&& 31).toUInt32).toInt32) &&& (255 : Int32)) else v200)) (hv209 : v209 = (((p3.toUInt32 >>> ((3 : Int32) &&& 31).toUInt32).toInt32) &&& (1 : Int32))) (hv215 : v215 = (if (((p3.toUInt32 >>> ((4 : Int32) &&& 31).toUInt32).toInt32) &&& (1 : Int32)) = (0 : Int32) then (((p3.toUInt32 >>> ((5 : Int32) &&& 31).toUInt32).toInt32) &&& (1 : Int32)) else v209)) (ho258 : o258 = (f8 v209 s_RECEIVE s_SEND)) (ho398 : o398 = (f8 v215 s_RECEIVE s_SEND)) (hv524 : v524 = (((p3.toUInt32 >>> ((6 : Int32) &&& 31).toUInt32).toInt32) &&& (3 : Int32))) (hc191_527 : ¬ (v524 = (1 : Int32))) (hc205_532 : ¬ (v524 = (2 : Int32))) (hc226_537 : ¬ (v524 = (3 : Int32))) (hv554 : v554 = (if v182 = v188 then (if v191 = v197 then (if v209 = v215 then (if v200 = v206 then (1 : Int32) else (0 : Int32)) else (0 : Int32)) else (0 : Int32)) else (0 : Int32))) (hc289_560 : ¬ ((f11_y v182 v191 v200 v188 v197 v206 o258 o398) = v554)) : False := by
  have A := own_B1 hv182
  have A' := own_B2 hv188 A
  have B := own_B1 hv191
  have B' := own_B2 hv197 B
  have C := own_B1 hv200
  have C' := own_B2 hv206 C
  have D := own_D1 hv209
  have D' := own_D2 hv215 D
  exact hc289_560 (by rw [hv554]; exact own_key A B C A' B' C' (own_dd hne D D' ho258 ho398))
set_option maxRecDepth 65536 in
set_option maxHeartbeats 40000000 in
theorem rm0 (l : Launch) (Z : State) (ar0 : Array Value) (hw : ∀ d ∈ tables_1, d.before ar0 Z = true) (ws : List Jvm.Cond) (p0 : Int32) (p1 : Int32) (p2 : Int32) (p3 : Int32) (gc1 : Int32) (s_SEND : Addr) (s_RECEIVE : Addr) (h0 : Heap) (n0 : Nat) (Z0 : n0 ≤ h0.size) (P5 : ¬ (gc1 = (0 : Int32))) (hne : s_SEND ≠ s_RECEIVE) (S_COMPACT_STRINGS : Sta Z h0 "java/lang/String" "COMPACT_STRINGS" "Z" (.int gc1)) (S_SEND : Sta Z h0 "com/example/oversee/oversee/model/Direction" "SEND" "Lcom/example/oversee/oversee/model/Direction;" (.ref s_SEND)) (S_RECEIVE : Sta Z h0 "com/example/oversee/oversee/model/Direction" "RECEIVE" "Lcom/example/oversee/oversee/model/Direction;" (.ref s_RECEIVE)) (E_s_SEND : Exa Z h0 s_SEND "com/example/oversee/oversee/model/Direction") (E_s_RECEIVE : Exa Z h0 s_RECEIVE "com/example/oversee/oversee/model/Direction") :
    MetFree l x (head1 (Jvm.Cond.code x code maxLocals ret :: ws) room_1) (fun a U => a = #[(.int p0), (.int p1), (.int p2), (.int p3)] ∧ Z.Warmed39 U.vm ∧ U.heap = h0) (fun _ _ _ _ _ => True) (fun _ U o U' => ∃ v L, o = .returned v ∧ Q0 Z p0 p1 p2 p3 gc1 s_SEND s_RECEIVE h0 n0 v U'.heap L ∧ ReturnedEndW U o U' L room_1.cells room_1.slots) := by
  refine MetFree.of_bodySF (plainFor_of_name pn_0) hisR ?_
  intro p e s m args below meth c s₁ Bd hml0 hP hK
  obtain ⟨rfl, hZ, hh⟩ := hP
  have hx := Bd.exec
  have hby := Bd.bytes
  have hml : c.maxLocals = 17 := hml0
  have hown : s.vm.findClass "com/example/oversee/oversee/model/ActionEqualsPinLaw" = some m.cls := by have q := findClass_of_methodNamed Bd.named; exact q
  have hnm := (name_of_methodNamed Bd.named Bd.method).1
  have X0 : Stand p l e room_1 s m #[(.int p0), (.int p1), (.int p2), (.int p3)] below meth c s₁ [] 0 0 := Stand.of_body Bd
  have e0 : s₁.heap = h0 := by rw [← hh, Bd.state]; rfl
  have N0 := Fr.nil n0
  have hS0 : s.Since s.vm 0 := own_since0 s
  have pre0 : ∀ t, Steps p.tables e below (s₁.setTop (mkF m 0 #[.val (.int p0), .val (.int p1), .val (.int p2), .val (.int p3), .unset, .unset, .unset, .unset, .unset, .unset, .unset, .unset, .unset, .unset, .unset, .unset, .unset] [])) t → Steps p.tables e below (s₁.setTop (entryFrame m #[(.int p0), (.int p1), (.int p2), (.int p3)] maxLocals)) t := fun t k => castTop (ef_0 m p0 p1 p2 p3) k
  have pre181 : ∀ t, Steps p.tables e below (s₁.setTop (mkF m 5 #[.val (.int p0), .val (.int p1), .val (.int p2), .val (.int p3), .unset, .unset, .unset, .unset, .unset, .unset, .unset, .unset, .unset, .unset, .unset, .unset, .unset] [(.int (p0 &&& (255 : Int32)))])) t → Steps p.tables e below (s₁.setTop (entryFrame m #[(.int p0), (.int p1), (.int p2), (.int p3)] maxLocals)) t := by
    intro t k
    refine pre0 t ?_
    show Steps p.tables e below (s₁.setTop (mkF m 0 #[.val (.int p0), .val (.int p1), .val (.int p2), .val (.int p3), .unset, .unset, .unset, .unset, .unset, .unset, .unset, .unset, .unset, .unset, .unset, .unset, .unset] [])) _
    refine XS.iloadN X0.here hx rfl (hb hby at_0) rfl ?_
    refine XS.sipush X0.here hx rfl (hb hby at_1) ?_
    refine XS.iand X0.here hx rfl (hb hby at_4) rfl ?_
    exact k
  obtain ⟨v182, hv182⟩ : ∃ z : Int32, z = (p0 &&& (255 : Int32)) := ⟨_, rfl⟩
  have pre183 : ∀ t, Steps p.tables e below (s₁.setTop (mkF m 5 #[.val (.int p0), .val (.int p1), .val (.int p2), .val (.int p3), .unset, .unset, .unset, .unset, .unset, .unset, .unset, .unset, .unset, .unset, .unset, .unset, .unset] [(.int v182)])) t → Steps p.tables e below (s₁.setTop (entryFrame m #[(.int p0), (.int p1), (.int p2), (.int p3)] maxLocals)) t := by rw [hv182]; exact pre181
  have pre184 : ∀ t, Steps p.tables e below (s₁.setTop (mkF m 10 #[.val (.int p0), .val (.int p1), .val (.int p2), .val (.int p3), .val (.int v182), .unset, .unset, .unset, .unset, .unset, .unset, .unset, .unset, .unset, .unset, .unset, .unset] [(.int (p3 &&& (1 : Int32)))])) t → Steps p.tables e below (s₁.setTop (entryFrame m #[(.int p0), (.int p1), (.int p2), (.int p3)] maxLocals)) t := by
    intro t k
    refine pre183 t ?_
    show Steps p.tables e below (s₁.setTop (mkF m 5 #[.val (.int p0), .val (.int p1), .val (.int p2), .val (.int p3), .unset, .unset, .unset, .unset, .unset, .unset, .unset, .unset, .unset, .unset, .unset, .unset, .unset] [(.int v182)])) _
    refine XS.istore X0.here hx rfl (hb hby at_5) rfl (l' := #[.val (.int p0), .val (.int p1), .val (.int p2), .val (.int p3), .val (.int v182), .unset, .unset, .unset, .unset, .unset, .unset, .unset, .unset, .unset, .unset, .unset, .unset]) rfl ?_
    refine XS.iloadN X0.here hx rfl (hb hby at_7) rfl ?_
    refine XS.iconst X0.here hx rfl (hb hby at_8) ?_
    refine XS.iand X0.here hx rfl (hb hby at_9) rfl ?_
    exact k
  obtain ⟨v188, pre189, hv188⟩ : ∃ (v188 : Int32), (∀ t, Steps p.tables e below (s₁.setTop (mkF m 26 #[.val (.int p0), .val (.int p1), .val (.int p2), .val (.int p3), .val (.int v182), .unset, .unset, .unset, .unset, .unset, .unset, .unset, .unset, .unset, .unset, .unset, .unset] [(.int v188)])) t → Steps p.tables e below (s₁.setTop (entryFrame m #[(.int p0), (.int p1), (.int p2), (.int p3)] maxLocals)) t) ∧ v188 = (if (p3 &&& (1 : Int32)) = (0 : Int32) then (((p0.toUInt32 >>> ((8 : Int32) &&& 31).toUInt32).toInt32) &&& (255 : Int32)) else v182) := by
    by_cases hc10_185 : (p3 &&& (1 : Int32)) = (0 : Int32)
    · have pre186 : ∀ t, Steps p.tables e below (s₁.setTop (mkF m 26 #[.val (.int p0), .val (.int p1), .val (.int p2), .val (.int p3), .val (.int v182), .unset, .unset, .unset, .unset, .unset, .unset, .unset, .unset, .unset, .unset, .unset, .unset] [(.int (((p0.toUInt32 >>> ((8 : Int32) &&& 31).toUInt32).toInt32) &&& (255 : Int32)))])) t → Steps p.tables e below (s₁.setTop (entryFrame m #[(.int p0), (.int p1), (.int p2), (.int p3)] maxLocals)) t := by
        intro t k
        refine pre184 t ?_
        show Steps p.tables e below (s₁.setTop (mkF m 10 #[.val (.int p0), .val (.int p1), .val (.int p2), .val (.int p3), .val (.int v182), .unset, .unset, .unset, .unset, .unset, .unset, .unset, .unset, .unset, .unset, .unset, .unset] [(.int (p3 &&& (1 : Int32)))])) _
        refine XS.ifYes X0.here hx rfl (pc0 := 10) (pc' := 18) rfl (hb hby at_10) rfl ((if0 _ _).trans (teq hc10_185).1) (by decide) (by decide) ?_
        refine XS.iloadN X0.here hx rfl (hb hby at_18) rfl ?_
        refine XS.bipush X0.here hx rfl (hb hby at_19) ?_
        refine XS.iushr X0.here hx rfl (hb hby at_21) rfl ?_
        refine XS.sipush X0.here hx rfl (hb hby at_22) ?_
        refine XS.iand X0.here hx rfl (hb hby at_25) rfl ?_
        exact k
      exact ⟨(((p0.toUInt32 >>> ((8 : Int32) &&& 31).toUInt32).toInt32) &&& (255 : Int32)), pre186, by rw [if_pos hc10_185]⟩
    · have pre187 : ∀ t, Steps p.tables e below (s₁.setTop (mkF m 26 #[.val (.int p0), .val (.int p1), .val (.int p2), .val (.int p3), .val (.int v182), .unset, .unset, .unset, .unset, .unset, .unset, .unset, .unset, .unset, .unset, .unset, .unset] [(.int v182)])) t → Steps p.tables e below (s₁.setTop (entryFrame m #[(.int p0), (.int p1), (.int p2), (.int p3)] maxLocals)) t := by
        intro t k
        refine pre184 t ?_
        show Steps p.tables e below (s₁.setTop (mkF m 10 #[.val (.int p0), .val (.int p1), .val (.int p2), .val (.int p3), .val (.int v182), .unset, .unset, .unset, .unset, .unset, .unset, .unset, .unset, .unset, .unset, .unset, .unset] [(.int (p3 &&& (1 : Int32)))])) _
        refine XS.ifNo X0.here hx rfl (hb hby at_10) rfl ((if0 _ _).trans (feq hc10_185).1) ?_
        refine XS.iload X0.here hx rfl (hb hby at_13) rfl ?_
        refine XS.goto X0.here hx rfl (pc0 := 15) (pc' := 26) rfl (hb hby at_15) (by decide) (by decide) ?_
        exact k
      exact ⟨v182, pre187, by rw [if_neg hc10_185]⟩
  have pre190 : ∀ t, Steps p.tables e below (s₁.setTop (mkF m 33 #[.val (.int p0), .val (.int p1), .val (.int p2), .val (.int p3), .val (.int v182), .val (.int v188), .unset, .unset, .unset, .unset, .unset, .unset, .unset, .unset, .unset, .unset, .unset] [(.int (p1 &&& (255 : Int32)))])) t → Steps p.tables e below (s₁.setTop (entryFrame m #[(.int p0), (.int p1), (.int p2), (.int p3)] maxLocals)) t := by
    intro t k
    refine pre189 t ?_
    show Steps p.tables e below (s₁.setTop (mkF m 26 #[.val (.int p0), .val (.int p1), .val (.int p2), .val (.int p3), .val (.int v182), .unset, .unset, .unset, .unset, .unset, .unset, .unset, .unset, .unset, .unset, .unset, .unset] [(.int v188)])) _
    refine XS.istore X0.here hx rfl (hb hby at_26) rfl (l' := #[.val (.int p0), .val (.int p1), .val (.int p2), .val (.int p3), .val (.int v182), .val (.int v188), .unset, .unset, .unset, .unset, .unset, .unset, .unset, .unset, .unset, .unset, .unset]) rfl ?_
    refine XS.iloadN X0.here hx rfl (hb hby at_28) rfl ?_
    refine XS.sipush X0.here hx rfl (hb hby at_29) ?_
    refine XS.iand X0.here hx rfl (hb hby at_32) rfl ?_
    exact k
  obtain ⟨v191, hv191⟩ : ∃ z : Int32, z = (p1 &&& (255 : Int32)) := ⟨_, rfl⟩
  have pre192 : ∀ t, Steps p.tables e below (s₁.setTop (mkF m 33 #[.val (.int p0), .val (.int p1), .val (.int p2), .val (.int p3), .val (.int v182), .val (.int v188), .unset, .unset, .unset, .unset, .unset, .unset, .unset, .unset, .unset, .unset, .unset] [(.int v191)])) t → Steps p.tables e below (s₁.setTop (entryFrame m #[(.int p0), (.int p1), (.int p2), (.int p3)] maxLocals)) t := by rw [hv191]; exact pre190
  have pre193 : ∀ t, Steps p.tables e below (s₁.setTop (mkF m 40 #[.val (.int p0), .val (.int p1), .val (.int p2), .val (.int p3), .val (.int v182), .val (.int v188), .val (.int v191), .unset, .unset, .unset, .unset, .unset, .unset, .unset, .unset, .unset, .unset] [(.int (((p3.toUInt32 >>> ((1 : Int32) &&& 31).toUInt32).toInt32) &&& (1 : Int32)))])) t → Steps p.tables e below (s₁.setTop (entryFrame m #[(.int p0), (.int p1), (.int p2), (.int p3)] maxLocals)) t := by
    intro t k
    refine pre192 t ?_
    show Steps p.tables e below (s₁.setTop (mkF m 33 #[.val (.int p0), .val (.int p1), .val (.int p2), .val (.int p3), .val (.int v182), .val (.int v188), .unset, .unset, .unset, .unset, .unset, .unset, .unset, .unset, .unset, .unset, .unset] [(.int v191)])) _
    refine XS.istore X0.here hx rfl (hb hby at_33) rfl (l' := #[.val (.int p0), .val (.int p1), .val (.int p2), .val (.int p3), .val (.int v182), .val (.int v188), .val (.int v191), .unset, .unset, .unset, .unset, .unset, .unset, .unset, .unset, .unset, .unset]) rfl ?_
    refine XS.iloadN X0.here hx rfl (hb hby at_35) rfl ?_
    refine XS.iconst X0.here hx rfl (hb hby at_36) ?_
    refine XS.iushr X0.here hx rfl (hb hby at_37) rfl ?_
    refine XS.iconst X0.here hx rfl (hb hby at_38) ?_
    refine XS.iand X0.here hx rfl (hb hby at_39) rfl ?_
    exact k
  obtain ⟨v197, pre198, hv197⟩ : ∃ (v197 : Int32), (∀ t, Steps p.tables e below (s₁.setTop (mkF m 56 #[.val (.int p0), .val (.int p1), .val (.int p2), .val (.int p3), .val (.int v182), .val (.int v188), .val (.int v191), .unset, .unset, .unset, .unset, .unset, .unset, .unset, .unset, .unset, .unset] [(.int v197)])) t → Steps p.tables e below (s₁.setTop (entryFrame m #[(.int p0), (.int p1), (.int p2), (.int p3)] maxLocals)) t) ∧ v197 = (if (((p3.toUInt32 >>> ((1 : Int32) &&& 31).toUInt32).toInt32) &&& (1 : Int32)) = (0 : Int32) then (((p1.toUInt32 >>> ((8 : Int32) &&& 31).toUInt32).toInt32) &&& (255 : Int32)) else v191) := by
    by_cases hc40_194 : (((p3.toUInt32 >>> ((1 : Int32) &&& 31).toUInt32).toInt32) &&& (1 : Int32)) = (0 : Int32)
    · have pre195 : ∀ t, Steps p.tables e below (s₁.setTop (mkF m 56 #[.val (.int p0), .val (.int p1), .val (.int p2), .val (.int p3), .val (.int v182), .val (.int v188), .val (.int v191), .unset, .unset, .unset, .unset, .unset, .unset, .unset, .unset, .unset, .unset] [(.int (((p1.toUInt32 >>> ((8 : Int32) &&& 31).toUInt32).toInt32) &&& (255 : Int32)))])) t → Steps p.tables e below (s₁.setTop (entryFrame m #[(.int p0), (.int p1), (.int p2), (.int p3)] maxLocals)) t := by
        intro t k
        refine pre193 t ?_
        show Steps p.tables e below (s₁.setTop (mkF m 40 #[.val (.int p0), .val (.int p1), .val (.int p2), .val (.int p3), .val (.int v182), .val (.int v188), .val (.int v191), .unset, .unset, .unset, .unset, .unset, .unset, .unset, .unset, .unset, .unset] [(.int (((p3.toUInt32 >>> ((1 : Int32) &&& 31).toUInt32).toInt32) &&& (1 : Int32)))])) _
        refine XS.ifYes X0.here hx rfl (pc0 := 40) (pc' := 48) rfl (hb hby at_40) rfl ((if0 _ _).trans (teq hc40_194).1) (by decide) (by decide) ?_
        refine XS.iloadN X0.here hx rfl (hb hby at_48) rfl ?_
        refine XS.bipush X0.here hx rfl (hb hby at_49) ?_
        refine XS.iushr X0.here hx rfl (hb hby at_51) rfl ?_
        refine XS.sipush X0.here hx rfl (hb hby at_52) ?_
        refine XS.iand X0.here hx rfl (hb hby at_55) rfl ?_
        exact k
      exact ⟨(((p1.toUInt32 >>> ((8 : Int32) &&& 31).toUInt32).toInt32) &&& (255 : Int32)), pre195, by rw [if_pos hc40_194]⟩
    · have pre196 : ∀ t, Steps p.tables e below (s₁.setTop (mkF m 56 #[.val (.int p0), .val (.int p1), .val (.int p2), .val (.int p3), .val (.int v182), .val (.int v188), .val (.int v191), .unset, .unset, .unset, .unset, .unset, .unset, .unset, .unset, .unset, .unset] [(.int v191)])) t → Steps p.tables e below (s₁.setTop (entryFrame m #[(.int p0), (.int p1), (.int p2), (.int p3)] maxLocals)) t := by
        intro t k
        refine pre193 t ?_
        show Steps p.tables e below (s₁.setTop (mkF m 40 #[.val (.int p0), .val (.int p1), .val (.int p2), .val (.int p3), .val (.int v182), .val (.int v188), .val (.int v191), .unset, .unset, .unset, .unset, .unset, .unset, .unset, .unset, .unset, .unset] [(.int (((p3.toUInt32 >>> ((1 : Int32) &&& 31).toUInt32).toInt32) &&& (1 : Int32)))])) _
        refine XS.ifNo X0.here hx rfl (hb hby at_40) rfl ((if0 _ _).trans (feq hc40_194).1) ?_
        refine XS.iload X0.here hx rfl (hb hby at_43) rfl ?_
        refine XS.goto X0.here hx rfl (pc0 := 45) (pc' := 56) rfl (hb hby at_45) (by decide) (by decide) ?_
        exact k
      exact ⟨v191, pre196, by rw [if_neg hc40_194]⟩
  have pre199 : ∀ t, Steps p.tables e below (s₁.setTop (mkF m 63 #[.val (.int p0), .val (.int p1), .val (.int p2), .val (.int p3), .val (.int v182), .val (.int v188), .val (.int v191), .val (.int v197), .unset, .unset, .unset, .unset, .unset, .unset, .unset, .unset, .unset] [(.int (p2 &&& (255 : Int32)))])) t → Steps p.tables e below (s₁.setTop (entryFrame m #[(.int p0), (.int p1), (.int p2), (.int p3)] maxLocals)) t := by
    intro t k
    refine pre198 t ?_
    show Steps p.tables e below (s₁.setTop (mkF m 56 #[.val (.int p0), .val (.int p1), .val (.int p2), .val (.int p3), .val (.int v182), .val (.int v188), .val (.int v191), .unset, .unset, .unset, .unset, .unset, .unset, .unset, .unset, .unset, .unset] [(.int v197)])) _
    refine XS.istore X0.here hx rfl (hb hby at_56) rfl (l' := #[.val (.int p0), .val (.int p1), .val (.int p2), .val (.int p3), .val (.int v182), .val (.int v188), .val (.int v191), .val (.int v197), .unset, .unset, .unset, .unset, .unset, .unset, .unset, .unset, .unset]) rfl ?_
    refine XS.iloadN X0.here hx rfl (hb hby at_58) rfl ?_
    refine XS.sipush X0.here hx rfl (hb hby at_59) ?_
    refine XS.iand X0.here hx rfl (hb hby at_62) rfl ?_
    exact k
  obtain ⟨v200, hv200⟩ : ∃ z : Int32, z = (p2 &&& (255 : Int32)) := ⟨_, rfl⟩
  have pre201 : ∀ t, Steps p.tables e below (s₁.setTop (mkF m 63 #[.val (.int p0), .val (.int p1), .val (.int p2), .val (.int p3), .val (.int v182), .val (.int v188), .val (.int v191), .val (.int v197), .unset, .unset, .unset, .unset, .unset, .unset, .unset, .unset, .unset] [(.int v200)])) t → Steps p.tables e below (s₁.setTop (entryFrame m #[(.int p0), (.int p1), (.int p2), (.int p3)] maxLocals)) t := by rw [hv200]; exact pre199
  have pre202 : ∀ t, Steps p.tables e below (s₁.setTop (mkF m 70 #[.val (.int p0), .val (.int p1), .val (.int p2), .val (.int p3), .val (.int v182), .val (.int v188), .val (.int v191), .val (.int v197), .val (.int v200), .unset, .unset, .unset, .unset, .unset, .unset, .unset, .unset] [(.int (((p3.toUInt32 >>> ((2 : Int32) &&& 31).toUInt32).toInt32) &&& (1 : Int32)))])) t → Steps p.tables e below (s₁.setTop (entryFrame m #[(.int p0), (.int p1), (.int p2), (.int p3)] maxLocals)) t := by
    intro t k
    refine pre201 t ?_
    show Steps p.tables e below (s₁.setTop (mkF m 63 #[.val (.int p0), .val (.int p1), .val (.int p2), .val (.int p3), .val (.int v182), .val (.int v188), .val (.int v191), .val (.int v197), .unset, .unset, .unset, .unset, .unset, .unset, .unset, .unset, .unset] [(.int v200)])) _
    refine XS.istore X0.here hx rfl (hb hby at_63) rfl (l' := #[.val (.int p0), .val (.int p1), .val (.int p2), .val (.int p3), .val (.int v182), .val (.int v188), .val (.int v191), .val (.int v197), .val (.int v200), .unset, .unset, .unset, .unset, .unset, .unset, .unset, .unset]) rfl ?_
    refine XS.iloadN X0.here hx rfl (hb hby at_65) rfl ?_
    refine XS.iconst X0.here hx rfl (hb hby at_66) ?_
    refine XS.iushr X0.here hx rfl (hb hby at_67) rfl ?_
    refine XS.iconst X0.here hx rfl (hb hby at_68) ?_
    refine XS.iand X0.here hx rfl (hb hby at_69) rfl ?_
    exact k
  obtain ⟨v206, pre207, hv206⟩ : ∃ (v206 : Int32), (∀ t, Steps p.tables e below (s₁.setTop (mkF m 86 #[.val (.int p0), .val (.int p1), .val (.int p2), .val (.int p3), .val (.int v182), .val (.int v188), .val (.int v191), .val (.int v197), .val (.int v200), .unset, .unset, .unset, .unset, .unset, .unset, .unset, .unset] [(.int v206)])) t → Steps p.tables e below (s₁.setTop (entryFrame m #[(.int p0), (.int p1), (.int p2), (.int p3)] maxLocals)) t) ∧ v206 = (if (((p3.toUInt32 >>> ((2 : Int32) &&& 31).toUInt32).toInt32) &&& (1 : Int32)) = (0 : Int32) then (((p2.toUInt32 >>> ((8 : Int32) &&& 31).toUInt32).toInt32) &&& (255 : Int32)) else v200) := by
    by_cases hc70_203 : (((p3.toUInt32 >>> ((2 : Int32) &&& 31).toUInt32).toInt32) &&& (1 : Int32)) = (0 : Int32)
    · have pre204 : ∀ t, Steps p.tables e below (s₁.setTop (mkF m 86 #[.val (.int p0), .val (.int p1), .val (.int p2), .val (.int p3), .val (.int v182), .val (.int v188), .val (.int v191), .val (.int v197), .val (.int v200), .unset, .unset, .unset, .unset, .unset, .unset, .unset, .unset] [(.int (((p2.toUInt32 >>> ((8 : Int32) &&& 31).toUInt32).toInt32) &&& (255 : Int32)))])) t → Steps p.tables e below (s₁.setTop (entryFrame m #[(.int p0), (.int p1), (.int p2), (.int p3)] maxLocals)) t := by
        intro t k
        refine pre202 t ?_
        show Steps p.tables e below (s₁.setTop (mkF m 70 #[.val (.int p0), .val (.int p1), .val (.int p2), .val (.int p3), .val (.int v182), .val (.int v188), .val (.int v191), .val (.int v197), .val (.int v200), .unset, .unset, .unset, .unset, .unset, .unset, .unset, .unset] [(.int (((p3.toUInt32 >>> ((2 : Int32) &&& 31).toUInt32).toInt32) &&& (1 : Int32)))])) _
        refine XS.ifYes X0.here hx rfl (pc0 := 70) (pc' := 78) rfl (hb hby at_70) rfl ((if0 _ _).trans (teq hc70_203).1) (by decide) (by decide) ?_
        refine XS.iloadN X0.here hx rfl (hb hby at_78) rfl ?_
        refine XS.bipush X0.here hx rfl (hb hby at_79) ?_
        refine XS.iushr X0.here hx rfl (hb hby at_81) rfl ?_
        refine XS.sipush X0.here hx rfl (hb hby at_82) ?_
        refine XS.iand X0.here hx rfl (hb hby at_85) rfl ?_
        exact k
      exact ⟨(((p2.toUInt32 >>> ((8 : Int32) &&& 31).toUInt32).toInt32) &&& (255 : Int32)), pre204, by rw [if_pos hc70_203]⟩
    · have pre205 : ∀ t, Steps p.tables e below (s₁.setTop (mkF m 86 #[.val (.int p0), .val (.int p1), .val (.int p2), .val (.int p3), .val (.int v182), .val (.int v188), .val (.int v191), .val (.int v197), .val (.int v200), .unset, .unset, .unset, .unset, .unset, .unset, .unset, .unset] [(.int v200)])) t → Steps p.tables e below (s₁.setTop (entryFrame m #[(.int p0), (.int p1), (.int p2), (.int p3)] maxLocals)) t := by
        intro t k
        refine pre202 t ?_
        show Steps p.tables e below (s₁.setTop (mkF m 70 #[.val (.int p0), .val (.int p1), .val (.int p2), .val (.int p3), .val (.int v182), .val (.int v188), .val (.int v191), .val (.int v197), .val (.int v200), .unset, .unset, .unset, .unset, .unset, .unset, .unset, .unset] [(.int (((p3.toUInt32 >>> ((2 : Int32) &&& 31).toUInt32).toInt32) &&& (1 : Int32)))])) _
        refine XS.ifNo X0.here hx rfl (hb hby at_70) rfl ((if0 _ _).trans (feq hc70_203).1) ?_
        refine XS.iload X0.here hx rfl (hb hby at_73) rfl ?_
        refine XS.goto X0.here hx rfl (pc0 := 75) (pc' := 86) rfl (hb hby at_75) (by decide) (by decide) ?_
        exact k
      exact ⟨v200, pre205, by rw [if_neg hc70_203]⟩
  have pre208 : ∀ t, Steps p.tables e below (s₁.setTop (mkF m 93 #[.val (.int p0), .val (.int p1), .val (.int p2), .val (.int p3), .val (.int v182), .val (.int v188), .val (.int v191), .val (.int v197), .val (.int v200), .val (.int v206), .unset, .unset, .unset, .unset, .unset, .unset, .unset] [(.int (((p3.toUInt32 >>> ((3 : Int32) &&& 31).toUInt32).toInt32) &&& (1 : Int32)))])) t → Steps p.tables e below (s₁.setTop (entryFrame m #[(.int p0), (.int p1), (.int p2), (.int p3)] maxLocals)) t := by
    intro t k
    refine pre207 t ?_
    show Steps p.tables e below (s₁.setTop (mkF m 86 #[.val (.int p0), .val (.int p1), .val (.int p2), .val (.int p3), .val (.int v182), .val (.int v188), .val (.int v191), .val (.int v197), .val (.int v200), .unset, .unset, .unset, .unset, .unset, .unset, .unset, .unset] [(.int v206)])) _
    refine XS.istore X0.here hx rfl (hb hby at_86) rfl (l' := #[.val (.int p0), .val (.int p1), .val (.int p2), .val (.int p3), .val (.int v182), .val (.int v188), .val (.int v191), .val (.int v197), .val (.int v200), .val (.int v206), .unset, .unset, .unset, .unset, .unset, .unset, .unset]) rfl ?_
    refine XS.iloadN X0.here hx rfl (hb hby at_88) rfl ?_
    refine XS.iconst X0.here hx rfl (hb hby at_89) ?_
    refine XS.iushr X0.here hx rfl (hb hby at_90) rfl ?_
    refine XS.iconst X0.here hx rfl (hb hby at_91) ?_
    refine XS.iand X0.here hx rfl (hb hby at_92) rfl ?_
    exact k
  obtain ⟨v209, hv209⟩ : ∃ z : Int32, z = (((p3.toUInt32 >>> ((3 : Int32) &&& 31).toUInt32).toInt32) &&& (1 : Int32)) := ⟨_, rfl⟩
  have pre210 : ∀ t, Steps p.tables e below (s₁.setTop (mkF m 93 #[.val (.int p0), .val (.int p1), .val (.int p2), .val (.int p3), .val (.int v182), .val (.int v188), .val (.int v191), .val (.int v197), .val (.int v200), .val (.int v206), .unset, .unset, .unset, .unset, .unset, .unset, .unset] [(.int v209)])) t → Steps p.tables e below (s₁.setTop (entryFrame m #[(.int p0), (.int p1), (.int p2), (.int p3)] maxLocals)) t := by rw [hv209]; exact pre208
  have pre211 : ∀ t, Steps p.tables e below (s₁.setTop (mkF m 100 #[.val (.int p0), .val (.int p1), .val (.int p2), .val (.int p3), .val (.int v182), .val (.int v188), .val (.int v191), .val (.int v197), .val (.int v200), .val (.int v206), .val (.int v209), .unset, .unset, .unset, .unset, .unset, .unset] [(.int (((p3.toUInt32 >>> ((4 : Int32) &&& 31).toUInt32).toInt32) &&& (1 : Int32)))])) t → Steps p.tables e below (s₁.setTop (entryFrame m #[(.int p0), (.int p1), (.int p2), (.int p3)] maxLocals)) t := by
    intro t k
    refine pre210 t ?_
    show Steps p.tables e below (s₁.setTop (mkF m 93 #[.val (.int p0), .val (.int p1), .val (.int p2), .val (.int p3), .val (.int v182), .val (.int v188), .val (.int v191), .val (.int v197), .val (.int v200), .val (.int v206), .unset, .unset, .unset, .unset, .unset, .unset, .unset] [(.int v209)])) _
    refine XS.istore X0.here hx rfl (hb hby at_93) rfl (l' := #[.val (.int p0), .val (.int p1), .val (.int p2), .val (.int p3), .val (.int v182), .val (.int v188), .val (.int v191), .val (.int v197), .val (.int v200), .val (.int v206), .val (.int v209), .unset, .unset, .unset, .unset, .unset, .unset]) rfl ?_
    refine XS.iloadN X0.here hx rfl (hb hby at_95) rfl ?_
    refine XS.iconst X0.here hx rfl (hb hby at_96) ?_
    refine XS.iushr X0.here hx rfl (hb hby at_97) rfl ?_
    refine XS.iconst X0.here hx rfl (hb hby at_98) ?_
    refine XS.iand X0.here hx rfl (hb hby at_99) rfl ?_
    exact k
  obtain ⟨v215, pre216, hv215⟩ : ∃ (v215 : Int32), (∀ t, Steps p.tables e below (s₁.setTop (mkF m 113 #[.val (.int p0), .val (.int p1), .val (.int p2), .val (.int p3), .val (.int v182), .val (.int v188), .val (.int v191), .val (.int v197), .val (.int v200), .val (.int v206), .val (.int v209), .unset, .unset, .unset, .unset, .unset, .unset] [(.int v215)])) t → Steps p.tables e below (s₁.setTop (entryFrame m #[(.int p0), (.int p1), (.int p2), (.int p3)] maxLocals)) t) ∧ v215 = (if (((p3.toUInt32 >>> ((4 : Int32) &&& 31).toUInt32).toInt32) &&& (1 : Int32)) = (0 : Int32) then (((p3.toUInt32 >>> ((5 : Int32) &&& 31).toUInt32).toInt32) &&& (1 : Int32)) else v209) := by
    by_cases hc100_212 : (((p3.toUInt32 >>> ((4 : Int32) &&& 31).toUInt32).toInt32) &&& (1 : Int32)) = (0 : Int32)
    · have pre213 : ∀ t, Steps p.tables e below (s₁.setTop (mkF m 113 #[.val (.int p0), .val (.int p1), .val (.int p2), .val (.int p3), .val (.int v182), .val (.int v188), .val (.int v191), .val (.int v197), .val (.int v200), .val (.int v206), .val (.int v209), .unset, .unset, .unset, .unset, .unset, .unset] [(.int (((p3.toUInt32 >>> ((5 : Int32) &&& 31).toUInt32).toInt32) &&& (1 : Int32)))])) t → Steps p.tables e below (s₁.setTop (entryFrame m #[(.int p0), (.int p1), (.int p2), (.int p3)] maxLocals)) t := by
        intro t k
        refine pre211 t ?_
        show Steps p.tables e below (s₁.setTop (mkF m 100 #[.val (.int p0), .val (.int p1), .val (.int p2), .val (.int p3), .val (.int v182), .val (.int v188), .val (.int v191), .val (.int v197), .val (.int v200), .val (.int v206), .val (.int v209), .unset, .unset, .unset, .unset, .unset, .unset] [(.int (((p3.toUInt32 >>> ((4 : Int32) &&& 31).toUInt32).toInt32) &&& (1 : Int32)))])) _
        refine XS.ifYes X0.here hx rfl (pc0 := 100) (pc' := 108) rfl (hb hby at_100) rfl ((if0 _ _).trans (teq hc100_212).1) (by decide) (by decide) ?_
        refine XS.iloadN X0.here hx rfl (hb hby at_108) rfl ?_
        refine XS.iconst X0.here hx rfl (hb hby at_109) ?_
        refine XS.iushr X0.here hx rfl (hb hby at_110) rfl ?_
        refine XS.iconst X0.here hx rfl (hb hby at_111) ?_
        refine XS.iand X0.here hx rfl (hb hby at_112) rfl ?_
        exact k
      exact ⟨(((p3.toUInt32 >>> ((5 : Int32) &&& 31).toUInt32).toInt32) &&& (1 : Int32)), pre213, by rw [if_pos hc100_212]⟩
    · have pre214 : ∀ t, Steps p.tables e below (s₁.setTop (mkF m 113 #[.val (.int p0), .val (.int p1), .val (.int p2), .val (.int p3), .val (.int v182), .val (.int v188), .val (.int v191), .val (.int v197), .val (.int v200), .val (.int v206), .val (.int v209), .unset, .unset, .unset, .unset, .unset, .unset] [(.int v209)])) t → Steps p.tables e below (s₁.setTop (entryFrame m #[(.int p0), (.int p1), (.int p2), (.int p3)] maxLocals)) t := by
        intro t k
        refine pre211 t ?_
        show Steps p.tables e below (s₁.setTop (mkF m 100 #[.val (.int p0), .val (.int p1), .val (.int p2), .val (.int p3), .val (.int v182), .val (.int v188), .val (.int v191), .val (.int v197), .val (.int v200), .val (.int v206), .val (.int v209), .unset, .unset, .unset, .unset, .unset, .unset] [(.int (((p3.toUInt32 >>> ((4 : Int32) &&& 31).toUInt32).toInt32) &&& (1 : Int32)))])) _
        refine XS.ifNo X0.here hx rfl (hb hby at_100) rfl ((if0 _ _).trans (feq hc100_212).1) ?_
        refine XS.iload X0.here hx rfl (hb hby at_103) rfl ?_
        refine XS.goto X0.here hx rfl (pc0 := 105) (pc' := 113) rfl (hb hby at_105) (by decide) (by decide) ?_
        exact k
      exact ⟨v209, pre214, by rw [if_neg hc100_212]⟩
  have pre217 : ∀ t, Steps p.tables e below (s₁.setTop (mkF m 115 #[.val (.int p0), .val (.int p1), .val (.int p2), .val (.int p3), .val (.int v182), .val (.int v188), .val (.int v191), .val (.int v197), .val (.int v200), .val (.int v206), .val (.int v209), .val (.int v215), .unset, .unset, .unset, .unset, .unset] [])) t → Steps p.tables e below (s₁.setTop (entryFrame m #[(.int p0), (.int p1), (.int p2), (.int p3)] maxLocals)) t := by
    intro t k
    refine pre216 t ?_
    show Steps p.tables e below (s₁.setTop (mkF m 113 #[.val (.int p0), .val (.int p1), .val (.int p2), .val (.int p3), .val (.int v182), .val (.int v188), .val (.int v191), .val (.int v197), .val (.int v200), .val (.int v206), .val (.int v209), .unset, .unset, .unset, .unset, .unset, .unset] [(.int v215)])) _
    refine XS.istore X0.here hx rfl (hb hby at_113) rfl (l' := #[.val (.int p0), .val (.int p1), .val (.int p2), .val (.int p3), .val (.int v182), .val (.int v188), .val (.int v191), .val (.int v197), .val (.int v200), .val (.int v206), .val (.int v209), .val (.int v215), .unset, .unset, .unset, .unset, .unset]) rfl ?_
    exact k
  obtain ⟨T218, h218, X218, e218, E218, A218, D218, -, st218⟩ := newO X0 hx hZ hown (hw _ (List.mem_of_getElem? (i := 0) rfl)) (hw _ (List.mem_of_getElem? (i := 1) rfl)) (hw _ (List.mem_of_getElem? (i := 2) rfl)) e0 (g := (mkF m 115 #[.val (.int p0), .val (.int p1), .val (.int p2), .val (.int p3), .val (.int v182), .val (.int v188), .val (.int v191), .val (.int v197), .val (.int v200), .val (.int v206), .val (.int v209), .val (.int v215), .unset, .unset, .unset, .unset, .unset] [])) rfl (hb hby at_115) (by decide) (by decide)
  obtain ⟨b218, g218⟩ : ∃ z, z = h0.size := ⟨_, rfl⟩
  rw [← g218] at A218 D218 st218
  have ne_s_SEND_b218 : s_SEND ≠ b218 := Nat.ne_of_lt (Nat.lt_of_lt_of_le (E_s_SEND).lt (Nat.le_of_eq g218.symm))
  have ne_s_RECEIVE_b218 : s_RECEIVE ≠ b218 := Nat.ne_of_lt (Nat.lt_of_lt_of_le (E_s_RECEIVE).lt (Nat.le_of_eq g218.symm))
  have g_b218 : n0 ≤ b218 := Nat.le_trans Z0 (Nat.le_of_eq g218.symm)
  have sz_b218 : h0.size ≤ b218 := Nat.le_trans (Keep.refl h0 []).1 (Nat.le_of_eq g218.symm)
  have Z218 : n0 ≤ h218.size := Nat.le_trans Z0 E218.1
  have K218 : Keep h0 h218 [] := (Keep.refl h0 []).ext E218
  have hk218 := Nat.le_trans (Nat.zero_le _) E218.1
  have Sf219 : Sta Z h218 "java/lang/String" "COMPACT_STRINGS" "Z" (.int gc1) := (S_COMPACT_STRINGS).ext E218
  have Sf220 : Sta Z h218 "com/example/oversee/oversee/model/Direction" "SEND" "Lcom/example/oversee/oversee/model/Direction;" (.ref s_SEND) := (S_SEND).ext E218
  have Sf221 : Sta Z h218 "com/example/oversee/oversee/model/Direction" "RECEIVE" "Lcom/example/oversee/oversee/model/Direction;" (.ref s_RECEIVE) := (S_RECEIVE).ext E218
  have Ef222 : Exa Z h218 s_SEND "com/example/oversee/oversee/model/Direction" := (E_s_SEND).ext E218
  have Ef223 : Exa Z h218 s_RECEIVE "com/example/oversee/oversee/model/Direction" := (E_s_RECEIVE).ext E218
  have Fsender_b218 : Fld Z h218 b218 "com/example/oversee/oversee/model/Action" "sender" "Ljava/lang/String;" .null := D218 (Or.inr (hw _ (List.mem_of_getElem? (i := 56) rfl))) (ty := (.object "java/lang/String")) (by decide)
  have Freceiver_b218 : Fld Z h218 b218 "com/example/oversee/oversee/model/Action" "receiver" "Ljava/lang/String;" .null := D218 (Or.inr (hw _ (List.mem_of_getElem? (i := 59) rfl))) (ty := (.object "java/lang/String")) (by decide)
  have Fdirection_b218 : Fld Z h218 b218 "com/example/oversee/oversee/model/Action" "direction" "Lcom/example/oversee/oversee/model/Direction;" .null := D218 (Or.inr (hw _ (List.mem_of_getElem? (i := 64) rfl))) (ty := (.object "com/example/oversee/oversee/model/Direction")) (by decide)
  have Fmessage_b218 : Fld Z h218 b218 "com/example/oversee/oversee/model/Action" "message" "Ljava/lang/String;" .null := D218 (Or.inr (hw _ (List.mem_of_getElem? (i := 67) rfl))) (ty := (.object "java/lang/String")) (by decide)
  have pre224 : ∀ t, Steps p.tables e below (T218.setTop (mkF m 118 #[.val (.int p0), .val (.int p1), .val (.int p2), .val (.int p3), .val (.int v182), .val (.int v188), .val (.int v191), .val (.int v197), .val (.int v200), .val (.int v206), .val (.int v209), .val (.int v215), .unset, .unset, .unset, .unset, .unset] [(.ref b218)])) t → Steps p.tables e below (s₁.setTop (entryFrame m #[(.int p0), (.int p1), (.int p2), (.int p3)] maxLocals)) t := fun t k => pre217 t (st218 t k)
  have pre225 : ∀ t, Steps p.tables e below (T218.setTop (mkF m 121 #[.val (.int p0), .val (.int p1), .val (.int p2), .val (.int p3), .val (.int v182), .val (.int v188), .val (.int v191), .val (.int v197), .val (.int v200), .val (.int v206), .val (.int v209), .val (.int v215), .unset, .unset, .unset, .unset, .unset] [(.int v182), (.ref b218), (.ref b218)])) t → Steps p.tables e below (s₁.setTop (entryFrame m #[(.int p0), (.int p1), (.int p2), (.int p3)] maxLocals)) t := by
    intro t k
    refine pre224 t ?_
    show Steps p.tables e below (T218.setTop (mkF m 118 #[.val (.int p0), .val (.int p1), .val (.int p2), .val (.int p3), .val (.int v182), .val (.int v188), .val (.int v191), .val (.int v197), .val (.int v200), .val (.int v206), .val (.int v209), .val (.int v215), .unset, .unset, .unset, .unset, .unset] [(.ref b218)])) _
    refine XS.dup X218.here hx rfl (hb hby at_118) rfl rfl ?_
    refine XS.iload X218.here hx rfl (hb hby at_119) rfl ?_
    exact k
  obtain ⟨_, _, ⟨T226, L226, k226, n226⟩, -, X226, ⟨Lc226, hQ226, l226, y226, z226⟩, st226⟩ := Jvm.LawKit.callS X218 hx (y := (⟨"com/example/oversee/oversee/model/ActionEqualsPinLaw", "str", "(I)Ljava/lang/String;"⟩ : MethodName)) hown (mvT hZ (hw _ (List.mem_of_getElem? (i := 3) rfl))) (mvT hZ (hw _ (List.mem_of_getElem? (i := 4) rfl))) (mvT hZ (hw _ (List.mem_of_getElem? (i := 5) rfl))) (mvT hZ (hw _ (List.mem_of_getElem? (i := 6) rfl))) (by decide) (backOf (W := 2) (rm1 l Z ar0 hw [] v182 gc1 h218 n0 Z218 P5 Sf219) hZ (hw _ (List.mem_of_getElem? (i := 6) rfl)) (hw _ (List.mem_of_getElem? (i := 5) rfl)) (by decide) (by decide)) (g := (mkF m 121 #[.val (.int p0), .val (.int p1), .val (.int p2), .val (.int p3), .val (.int v182), .val (.int v188), .val (.int v191), .val (.int v197), .val (.int v200), .val (.int v206), .val (.int v209), .val (.int v215), .unset, .unset, .unset, .unset, .unset] [(.int v182), (.ref b218), (.ref b218)])) rfl (by rw [hml]; rfl) (argsL := [(.int v182)]) (rest := [(.ref b218), (.ref b218)]) (lenOf pd_3 rfl) rfl (by show 2 * 0 + _ ≤ _; exact Nat.le_of_eq rfl) (hb hby at_121) (fun _ _ => ⟨rfl, e218, (by decide : 1 + 3 ≤ _), (by decide : 4 + 6 ≤ _)⟩)
  dsimp only [Pt.U, Pt.locs, Pt.cells, Pt.slots] at X226 l226 y226 z226 st226 hQ226
  subst l226 y226 z226
  obtain ⟨h226, e226⟩ : ∃ h, T226.heap = h := ⟨_, rfl⟩
  rw [e226] at hQ226
  obtain ⟨b226, b226b, kb226b, rfl, N226q, K226q, y_b226, Ob226_0, Ob226_1, Ob226_2, y_b226b, Ob226b_0⟩ := hQ226
  have N226 := Fr.app N0 N226q
  have ne_s_SEND_b226 : s_SEND ≠ b226 := Nat.ne_of_lt (Nat.lt_of_lt_of_le (Ef222).lt y_b226)
  have ne_s_RECEIVE_b226 : s_RECEIVE ≠ b226 := Nat.ne_of_lt (Nat.lt_of_lt_of_le (Ef223).lt y_b226)
  have ne_b218_b226 : b218 ≠ b226 := Nat.ne_of_lt (Nat.lt_of_lt_of_le (A218).lt y_b226)
  have g_b226 : n0 ≤ b226 := Nat.le_trans Z218 y_b226
  have sz_b226 : h0.size ≤ b226 := Nat.le_trans K218.1 y_b226
  have ne_s_SEND_b226b : s_SEND ≠ b226b := Nat.ne_of_lt (Nat.lt_of_lt_of_le (Ef222).lt y_b226b)
  have ne_s_RECEIVE_b226b : s_RECEIVE ≠ b226b := Nat.ne_of_lt (Nat.lt_of_lt_of_le (Ef223).lt y_b226b)
  have ne_b218_b226b : b218 ≠ b226b := Nat.ne_of_lt (Nat.lt_of_lt_of_le (A218).lt y_b226b)
  have g_b226b : n0 ≤ b226b := Nat.le_trans Z218 y_b226b
  have sz_b226b : h0.size ≤ b226b := Nat.le_trans K218.1 y_b226b
  have Z226 : n0 ≤ h226.size := Nat.le_trans Z218 K226q.1
  have hk226 := Nat.le_trans hk218 K226q.1
  have K226 : Keep h0 h226 [] := K218.trans K226q (fun x hx => absurd hx List.not_mem_nil)
  have Sf227 : Sta Z h226 "java/lang/String" "COMPACT_STRINGS" "Z" (.int gc1) := own_sta_keep0 Sf219 K226q
  have Sf228 : Sta Z h226 "com/example/oversee/oversee/model/Direction" "SEND" "Lcom/example/oversee/oversee/model/Direction;" (.ref s_SEND) := own_sta_keep0 Sf220 K226q
  have Sf229 : Sta Z h226 "com/example/oversee/oversee/model/Direction" "RECEIVE" "Lcom/example/oversee/oversee/model/Direction;" (.ref s_RECEIVE) := own_sta_keep0 Sf221 K226q
  have Ef230 : Exa Z h226 s_SEND "com/example/oversee/oversee/model/Direction" := (Ef222).keep K226q
  have Ef231 : Exa Z h226 s_RECEIVE "com/example/oversee/oversee/model/Direction" := (Ef223).keep K226q
  have Ef232 : Exa Z h226 b218 "com/example/oversee/oversee/model/Action" := (A218).keep K226q
  have Ff233 : Fld Z h226 b218 "com/example/oversee/oversee/model/Action" "sender" "Ljava/lang/String;" .null := (Fsender_b218).keep K226q List.not_mem_nil
  have Ff234 : Fld Z h226 b218 "com/example/oversee/oversee/model/Action" "receiver" "Ljava/lang/String;" .null := (Freceiver_b218).keep K226q List.not_mem_nil
  have Ff235 : Fld Z h226 b218 "com/example/oversee/oversee/model/Action" "direction" "Lcom/example/oversee/oversee/model/Direction;" .null := (Fdirection_b218).keep K226q List.not_mem_nil
  have Ff236 : Fld Z h226 b218 "com/example/oversee/oversee/model/Action" "message" "Ljava/lang/String;" .null := (Fmessage_b218).keep K226q List.not_mem_nil
  have pre237 : ∀ t, Steps p.tables e below (T226.setTop (mkF m 124 #[.val (.int p0), .val (.int p1), .val (.int p2), .val (.int p3), .val (.int v182), .val (.int v188), .val (.int v191), .val (.int v197), .val (.int v200), .val (.int v206), .val (.int v209), .val (.int v215), .unset, .unset, .unset, .unset, .unset] [(.ref b226), (.ref b218), (.ref b218)])) t → Steps p.tables e below (s₁.setTop (entryFrame m #[(.int p0), (.int p1), (.int p2), (.int p3)] maxLocals)) t := fun t k => pre225 t (st226 t k)
  have pre238 : ∀ t, Steps p.tables e below (T226.setTop (mkF m 126 #[.val (.int p0), .val (.int p1), .val (.int p2), .val (.int p3), .val (.int v182), .val (.int v188), .val (.int v191), .val (.int v197), .val (.int v200), .val (.int v206), .val (.int v209), .val (.int v215), .unset, .unset, .unset, .unset, .unset] [(.int v191), (.ref b226), (.ref b218), (.ref b218)])) t → Steps p.tables e below (s₁.setTop (entryFrame m #[(.int p0), (.int p1), (.int p2), (.int p3)] maxLocals)) t := by
    intro t k
    refine pre237 t ?_
    show Steps p.tables e below (T226.setTop (mkF m 124 #[.val (.int p0), .val (.int p1), .val (.int p2), .val (.int p3), .val (.int v182), .val (.int v188), .val (.int v191), .val (.int v197), .val (.int v200), .val (.int v206), .val (.int v209), .val (.int v215), .unset, .unset, .unset, .unset, .unset] [(.ref b226), (.ref b218), (.ref b218)])) _
    refine XS.iload X226.here hx rfl (hb hby at_124) rfl ?_
    exact k
  obtain ⟨_, _, ⟨T239, L239, k239, n239⟩, -, X239, ⟨Lc239, hQ239, l239, y239, z239⟩, st239⟩ := Jvm.LawKit.callS X226 hx (y := (⟨"com/example/oversee/oversee/model/ActionEqualsPinLaw", "str", "(I)Ljava/lang/String;"⟩ : MethodName)) hown (mvT hZ (hw _ (List.mem_of_getElem? (i := 3) rfl))) (mvT hZ (hw _ (List.mem_of_getElem? (i := 4) rfl))) (mvT hZ (hw _ (List.mem_of_getElem? (i := 5) rfl))) (mvT hZ (hw _ (List.mem_of_getElem? (i := 6) rfl))) (by decide) (backOf (W := 3) (rm1 l Z ar0 hw [] v191 gc1 h226 n0 Z226 P5 Sf227) hZ (hw _ (List.mem_of_getElem? (i := 6) rfl)) (hw _ (List.mem_of_getElem? (i := 5) rfl)) (by decide) (by decide)) (g := (mkF m 126 #[.val (.int p0), .val (.int p1), .val (.int p2), .val (.int p3), .val (.int v182), .val (.int v188), .val (.int v191), .val (.int v197), .val (.int v200), .val (.int v206), .val (.int v209), .val (.int v215), .unset, .unset, .unset, .unset, .unset] [(.int v191), (.ref b226), (.ref b218), (.ref b218)])) rfl (by rw [hml]; rfl) (argsL := [(.int v191)]) (rest := [(.ref b226), (.ref b218), (.ref b218)]) (lenOf pd_3 rfl) rfl (by show 2 * 0 + _ ≤ _; exact Nat.le_of_eq rfl) (hb hby at_126) (fun _ _ => ⟨rfl, e226, (by decide : 4 + 3 ≤ _), (by decide : 10 + 6 ≤ _)⟩)
  dsimp only [Pt.U, Pt.locs, Pt.cells, Pt.slots] at X239 l239 y239 z239 st239 hQ239
  subst l239 y239 z239
  obtain ⟨h239, e239⟩ : ∃ h, T239.heap = h := ⟨_, rfl⟩
  rw [e239] at hQ239
  obtain ⟨b239, b239b, kb239b, rfl, N239q, K239q, y_b239, Ob239_0, Ob239_1, Ob239_2, y_b239b, Ob239b_0⟩ := hQ239
  have N239 := Fr.app N226 N239q
  have ne_s_SEND_b239 : s_SEND ≠ b239 := Nat.ne_of_lt (Nat.lt_of_lt_of_le (Ef230).lt y_b239)
  have ne_s_RECEIVE_b239 : s_RECEIVE ≠ b239 := Nat.ne_of_lt (Nat.lt_of_lt_of_le (Ef231).lt y_b239)
  have ne_b218_b239 : b218 ≠ b239 := Nat.ne_of_lt (Nat.lt_of_lt_of_le (Ef232).lt y_b239)
  have ne_b226_b239 : b226 ≠ b239 := Nat.ne_of_lt (Nat.lt_of_lt_of_le (Ob226_0).lt y_b239)
  have ne_b226b_b239 : b226b ≠ b239 := Nat.ne_of_lt (Nat.lt_of_lt_of_le (Ob226b_0).lt y_b239)
  have g_b239 : n0 ≤ b239 := Nat.le_trans Z226 y_b239
  have sz_b239 : h0.size ≤ b239 := Nat.le_trans K226.1 y_b239
  have ne_s_SEND_b239b : s_SEND ≠ b239b := Nat.ne_of_lt (Nat.lt_of_lt_of_le (Ef230).lt y_b239b)
  have ne_s_RECEIVE_b239b : s_RECEIVE ≠ b239b := Nat.ne_of_lt (Nat.lt_of_lt_of_le (Ef231).lt y_b239b)
  have ne_b218_b239b : b218 ≠ b239b := Nat.ne_of_lt (Nat.lt_of_lt_of_le (Ef232).lt y_b239b)
  have ne_b226_b239b : b226 ≠ b239b := Nat.ne_of_lt (Nat.lt_of_lt_of_le (Ob226_0).lt y_b239b)
  have ne_b226b_b239b : b226b ≠ b239b := Nat.ne_of_lt (Nat.lt_of_lt_of_le (Ob226b_0).lt y_b239b)
  have g_b239b : n0 ≤ b239b := Nat.le_trans Z226 y_b239b
  have sz_b239b : h0.size ≤ b239b := Nat.le_trans K226.1 y_b239b
  have Z239 : n0 ≤ h239.size := Nat.le_trans Z226 K239q.1
  have hk239 := Nat.le_trans hk226 K239q.1
  have K239 : Keep h0 h239 [] := K226.trans K239q (fun x hx => absurd hx List.not_mem_nil)
  have Sf240 : Sta Z h239 "java/lang/String" "COMPACT_STRINGS" "Z" (.int gc1) := own_sta_keep0 Sf227 K239q
  have Sf241 : Sta Z h239 "com/example/oversee/oversee/model/Direction" "SEND" "Lcom/example/oversee/oversee/model/Direction;" (.ref s_SEND) := own_sta_keep0 Sf228 K239q
  have Sf242 : Sta Z h239 "com/example/oversee/oversee/model/Direction" "RECEIVE" "Lcom/example/oversee/oversee/model/Direction;" (.ref s_RECEIVE) := own_sta_keep0 Sf229 K239q
  have Ef243 : Exa Z h239 s_SEND "com/example/oversee/oversee/model/Direction" := (Ef230).keep K239q
  have Ef244 : Exa Z h239 s_RECEIVE "com/example/oversee/oversee/model/Direction" := (Ef231).keep K239q
  have Ef245 : Exa Z h239 b218 "com/example/oversee/oversee/model/Action" := (Ef232).keep K239q
  have Ff246 : Fld Z h239 b218 "com/example/oversee/oversee/model/Action" "sender" "Ljava/lang/String;" .null := (Ff233).keep K239q List.not_mem_nil
  have Ff247 : Fld Z h239 b218 "com/example/oversee/oversee/model/Action" "receiver" "Ljava/lang/String;" .null := (Ff234).keep K239q List.not_mem_nil
  have Ff248 : Fld Z h239 b218 "com/example/oversee/oversee/model/Action" "direction" "Lcom/example/oversee/oversee/model/Direction;" .null := (Ff235).keep K239q List.not_mem_nil
  have Ff249 : Fld Z h239 b218 "com/example/oversee/oversee/model/Action" "message" "Ljava/lang/String;" .null := (Ff236).keep K239q List.not_mem_nil
  have Ef250 : Exa Z h239 b226 "java/lang/String" := (Ob226_0).keep K239q
  have Ff251 : Fld Z h239 b226 "java/lang/String" "coder" "B" (.int (0 : Int32)) := (Ob226_1).keep K239q List.not_mem_nil
  have Ff252 : Fld Z h239 b226 "java/lang/String" "value" "[B" (.ref b226b) := (Ob226_2).keep K239q List.not_mem_nil
  have Vf253 : Arv Z h239 b226b kb226b .byte (1 : Int32) ((([(own_ch v182)] : List Int32).map (fun c => c.toInt8.toInt32)).map Value.int) (.int (0 : Int32)) := (Ob226b_0).keep K239q List.not_mem_nil
  have pre254 : ∀ t, Steps p.tables e below (T239.setTop (mkF m 129 #[.val (.int p0), .val (.int p1), .val (.int p2), .val (.int p3), .val (.int v182), .val (.int v188), .val (.int v191), .val (.int v197), .val (.int v200), .val (.int v206), .val (.int v209), .val (.int v215), .unset, .unset, .unset, .unset, .unset] [(.ref b239), (.ref b226), (.ref b218), (.ref b218)])) t → Steps p.tables e below (s₁.setTop (entryFrame m #[(.int p0), (.int p1), (.int p2), (.int p3)] maxLocals)) t := fun t k => pre238 t (st239 t k)
  have pre255 : ∀ t, Steps p.tables e below (T239.setTop (mkF m 131 #[.val (.int p0), .val (.int p1), .val (.int p2), .val (.int p3), .val (.int v182), .val (.int v188), .val (.int v191), .val (.int v197), .val (.int v200), .val (.int v206), .val (.int v209), .val (.int v215), .unset, .unset, .unset, .unset, .unset] [(.int v209), (.ref b239), (.ref b226), (.ref b218), (.ref b218)])) t → Steps p.tables e below (s₁.setTop (entryFrame m #[(.int p0), (.int p1), (.int p2), (.int p3)] maxLocals)) t := by
    intro t k
    refine pre254 t ?_
    show Steps p.tables e below (T239.setTop (mkF m 129 #[.val (.int p0), .val (.int p1), .val (.int p2), .val (.int p3), .val (.int v182), .val (.int v188), .val (.int v191), .val (.int v197), .val (.int v200), .val (.int v206), .val (.int v209), .val (.int v215), .unset, .unset, .unset, .unset, .unset] [(.ref b239), (.ref b226), (.ref b218), (.ref b218)])) _
    refine XS.iload X239.here hx rfl (hb hby at_129) rfl ?_
    exact k
  obtain ⟨_, _, ⟨T256, L256, k256, n256⟩, -, X256, ⟨Lc256, hQ256, l256, y256, z256⟩, st256⟩ := Jvm.LawKit.callS X239 hx (y := (⟨"com/example/oversee/oversee/model/ActionEqualsPinLaw", "dir", "(I)Lcom/example/oversee/oversee/model/Direction;"⟩ : MethodName)) hown (mvT hZ (hw _ (List.mem_of_getElem? (i := 37) rfl))) (mvT hZ (hw _ (List.mem_of_getElem? (i := 38) rfl))) (mvT hZ (hw _ (List.mem_of_getElem? (i := 5) rfl))) (mvT hZ (hw _ (List.mem_of_getElem? (i := 39) rfl))) (by decide) (backOf (W := 4) (rm8 l Z ar0 hw [] v209 s_RECEIVE s_SEND h239 n0 Z239 Sf242 Sf241) hZ (hw _ (List.mem_of_getElem? (i := 39) rfl)) (hw _ (List.mem_of_getElem? (i := 5) rfl)) (by decide) (by decide)) (g := (mkF m 131 #[.val (.int p0), .val (.int p1), .val (.int p2), .val (.int p3), .val (.int v182), .val (.int v188), .val (.int v191), .val (.int v197), .val (.int v200), .val (.int v206), .val (.int v209), .val (.int v215), .unset, .unset, .unset, .unset, .unset] [(.int v209), (.ref b239), (.ref b226), (.ref b218), (.ref b218)])) rfl (by rw [hml]; rfl) (argsL := [(.int v209)]) (rest := [(.ref b239), (.ref b226), (.ref b218), (.ref b218)]) (lenOf pd_4 rfl) rfl (by show 2 * 0 + _ ≤ _; exact Nat.le_of_eq rfl) (hb hby at_131) (fun _ _ => ⟨rfl, e239, (by decide : 7 + 0 ≤ _), (by decide : 16 + 0 ≤ _)⟩)
  dsimp only [Pt.U, Pt.locs, Pt.cells, Pt.slots] at X256 l256 y256 z256 st256 hQ256
  subst l256 y256 z256
  obtain ⟨rfl, N256q, e256⟩ := hQ256
  have N256 := Fr.app N239 N256q
  have pre257 : ∀ t, Steps p.tables e below (T256.setTop (mkF m 134 #[.val (.int p0), .val (.int p1), .val (.int p2), .val (.int p3), .val (.int v182), .val (.int v188), .val (.int v191), .val (.int v197), .val (.int v200), .val (.int v206), .val (.int v209), .val (.int v215), .unset, .unset, .unset, .unset, .unset] [(.ref (f8 v209 s_RECEIVE s_SEND)), (.ref b239), (.ref b226), (.ref b218), (.ref b218)])) t → Steps p.tables e below (s₁.setTop (entryFrame m #[(.int p0), (.int p1), (.int p2), (.int p3)] maxLocals)) t := fun t k => pre255 t (st256 t k)
  obtain ⟨o258, ho258⟩ : ∃ z : Addr, z = (f8 v209 s_RECEIVE s_SEND) := ⟨_, rfl⟩
  have pre259 : ∀ t, Steps p.tables e below (T256.setTop (mkF m 134 #[.val (.int p0), .val (.int p1), .val (.int p2), .val (.int p3), .val (.int v182), .val (.int v188), .val (.int v191), .val (.int v197), .val (.int v200), .val (.int v206), .val (.int v209), .val (.int v215), .unset, .unset, .unset, .unset, .unset] [(.ref o258), (.ref b239), (.ref b226), (.ref b218), (.ref b218)])) t → Steps p.tables e below (s₁.setTop (entryFrame m #[(.int p0), (.int p1), (.int p2), (.int p3)] maxLocals)) t := by rw [ho258]; exact pre257
  have E_o258 : Exa Z h239 o258 "com/example/oversee/oversee/model/Direction" := by rw [ho258]; exact own_dirE _ Ef243 Ef244
  have pre260 : ∀ t, Steps p.tables e below (T256.setTop (mkF m 136 #[.val (.int p0), .val (.int p1), .val (.int p2), .val (.int p3), .val (.int v182), .val (.int v188), .val (.int v191), .val (.int v197), .val (.int v200), .val (.int v206), .val (.int v209), .val (.int v215), .unset, .unset, .unset, .unset, .unset] [(.int v200), (.ref o258), (.ref b239), (.ref b226), (.ref b218), (.ref b218)])) t → Steps p.tables e below (s₁.setTop (entryFrame m #[(.int p0), (.int p1), (.int p2), (.int p3)] maxLocals)) t := by
    intro t k
    refine pre259 t ?_
    show Steps p.tables e below (T256.setTop (mkF m 134 #[.val (.int p0), .val (.int p1), .val (.int p2), .val (.int p3), .val (.int v182), .val (.int v188), .val (.int v191), .val (.int v197), .val (.int v200), .val (.int v206), .val (.int v209), .val (.int v215), .unset, .unset, .unset, .unset, .unset] [(.ref o258), (.ref b239), (.ref b226), (.ref b218), (.ref b218)])) _
    refine XS.iload X256.here hx rfl (hb hby at_134) rfl ?_
    exact k
  obtain ⟨_, _, ⟨T261, L261, k261, n261⟩, -, X261, ⟨Lc261, hQ261, l261, y261, z261⟩, st261⟩ := Jvm.LawKit.callS X256 hx (y := (⟨"com/example/oversee/oversee/model/ActionEqualsPinLaw", "str", "(I)Ljava/lang/String;"⟩ : MethodName)) hown (mvT hZ (hw _ (List.mem_of_getElem? (i := 3) rfl))) (mvT hZ (hw _ (List.mem_of_getElem? (i := 4) rfl))) (mvT hZ (hw _ (List.mem_of_getElem? (i := 5) rfl))) (mvT hZ (hw _ (List.mem_of_getElem? (i := 6) rfl))) (by decide) (backOf (W := 5) (rm1 l Z ar0 hw [] v200 gc1 h239 n0 Z239 P5 Sf240) hZ (hw _ (List.mem_of_getElem? (i := 6) rfl)) (hw _ (List.mem_of_getElem? (i := 5) rfl)) (by decide) (by decide)) (g := (mkF m 136 #[.val (.int p0), .val (.int p1), .val (.int p2), .val (.int p3), .val (.int v182), .val (.int v188), .val (.int v191), .val (.int v197), .val (.int v200), .val (.int v206), .val (.int v209), .val (.int v215), .unset, .unset, .unset, .unset, .unset] [(.int v200), (.ref o258), (.ref b239), (.ref b226), (.ref b218), (.ref b218)])) rfl (by rw [hml]; rfl) (argsL := [(.int v200)]) (rest := [(.ref o258), (.ref b239), (.ref b226), (.ref b218), (.ref b218)]) (lenOf pd_3 rfl) rfl (by show 2 * 0 + _ ≤ _; exact Nat.le_of_eq rfl) (hb hby at_136) (fun _ _ => ⟨rfl, e256, (by decide : 7 + 3 ≤ _), (by decide : 16 + 6 ≤ _)⟩)
  dsimp only [Pt.U, Pt.locs, Pt.cells, Pt.slots] at X261 l261 y261 z261 st261 hQ261
  subst l261 y261 z261
  obtain ⟨h261, e261⟩ : ∃ h, T261.heap = h := ⟨_, rfl⟩
  rw [e261] at hQ261
  obtain ⟨b261, b261b, kb261b, rfl, N261q, K261q, y_b261, Ob261_0, Ob261_1, Ob261_2, y_b261b, Ob261b_0⟩ := hQ261
  have N261 := Fr.app N256 N261q
  have ne_s_SEND_b261 : s_SEND ≠ b261 := Nat.ne_of_lt (Nat.lt_of_lt_of_le (Ef243).lt y_b261)
  have ne_s_RECEIVE_b261 : s_RECEIVE ≠ b261 := Nat.ne_of_lt (Nat.lt_of_lt_of_le (Ef244).lt y_b261)
  have ne_b218_b261 : b218 ≠ b261 := Nat.ne_of_lt (Nat.lt_of_lt_of_le (Ef245).lt y_b261)
  have ne_b226_b261 : b226 ≠ b261 := Nat.ne_of_lt (Nat.lt_of_lt_of_le (Ef250).lt y_b261)
  have ne_b226b_b261 : b226b ≠ b261 := Nat.ne_of_lt (Nat.lt_of_lt_of_le (Vf253).lt y_b261)
  have ne_b239_b261 : b239 ≠ b261 := Nat.ne_of_lt (Nat.lt_of_lt_of_le (Ob239_0).lt y_b261)
  have ne_b239b_b261 : b239b ≠ b261 := Nat.ne_of_lt (Nat.lt_of_lt_of_le (Ob239b_0).lt y_b261)
  have ne_o258_b261 : o258 ≠ b261 := Nat.ne_of_lt (Nat.lt_of_lt_of_le (E_o258).lt y_b261)
  have g_b261 : n0 ≤ b261 := Nat.le_trans Z239 y_b261
  have sz_b261 : h0.size ≤ b261 := Nat.le_trans K239.1 y_b261
  have ne_s_SEND_b261b : s_SEND ≠ b261b := Nat.ne_of_lt (Nat.lt_of_lt_of_le (Ef243).lt y_b261b)
  have ne_s_RECEIVE_b261b : s_RECEIVE ≠ b261b := Nat.ne_of_lt (Nat.lt_of_lt_of_le (Ef244).lt y_b261b)
  have ne_b218_b261b : b218 ≠ b261b := Nat.ne_of_lt (Nat.lt_of_lt_of_le (Ef245).lt y_b261b)
  have ne_b226_b261b : b226 ≠ b261b := Nat.ne_of_lt (Nat.lt_of_lt_of_le (Ef250).lt y_b261b)
  have ne_b226b_b261b : b226b ≠ b261b := Nat.ne_of_lt (Nat.lt_of_lt_of_le (Vf253).lt y_b261b)
  have ne_b239_b261b : b239 ≠ b261b := Nat.ne_of_lt (Nat.lt_of_lt_of_le (Ob239_0).lt y_b261b)
  have ne_b239b_b261b : b239b ≠ b261b := Nat.ne_of_lt (Nat.lt_of_lt_of_le (Ob239b_0).lt y_b261b)
  have ne_o258_b261b : o258 ≠ b261b := Nat.ne_of_lt (Nat.lt_of_lt_of_le (E_o258).lt y_b261b)
  have g_b261b : n0 ≤ b261b := Nat.le_trans Z239 y_b261b
  have sz_b261b : h0.size ≤ b261b := Nat.le_trans K239.1 y_b261b
  have Z261 : n0 ≤ h261.size := Nat.le_trans Z239 K261q.1
  have hk261 := Nat.le_trans hk239 K261q.1
  have K261 : Keep h0 h261 [] := K239.trans K261q (fun x hx => absurd hx List.not_mem_nil)
  have Sf262 : Sta Z h261 "java/lang/String" "COMPACT_STRINGS" "Z" (.int gc1) := own_sta_keep0 Sf240 K261q
  have Sf263 : Sta Z h261 "com/example/oversee/oversee/model/Direction" "SEND" "Lcom/example/oversee/oversee/model/Direction;" (.ref s_SEND) := own_sta_keep0 Sf241 K261q
  have Sf264 : Sta Z h261 "com/example/oversee/oversee/model/Direction" "RECEIVE" "Lcom/example/oversee/oversee/model/Direction;" (.ref s_RECEIVE) := own_sta_keep0 Sf242 K261q
  have Ef265 : Exa Z h261 s_SEND "com/example/oversee/oversee/model/Direction" := (Ef243).keep K261q
  have Ef266 : Exa Z h261 s_RECEIVE "com/example/oversee/oversee/model/Direction" := (Ef244).keep K261q
  have Ef267 : Exa Z h261 b218 "com/example/oversee/oversee/model/Action" := (Ef245).keep K261q
  have Ff268 : Fld Z h261 b218 "com/example/oversee/oversee/model/Action" "sender" "Ljava/lang/String;" .null := (Ff246).keep K261q List.not_mem_nil
  have Ff269 : Fld Z h261 b218 "com/example/oversee/oversee/model/Action" "receiver" "Ljava/lang/String;" .null := (Ff247).keep K261q List.not_mem_nil
  have Ff270 : Fld Z h261 b218 "com/example/oversee/oversee/model/Action" "direction" "Lcom/example/oversee/oversee/model/Direction;" .null := (Ff248).keep K261q List.not_mem_nil
  have Ff271 : Fld Z h261 b218 "com/example/oversee/oversee/model/Action" "message" "Ljava/lang/String;" .null := (Ff249).keep K261q List.not_mem_nil
  have Ef272 : Exa Z h261 b226 "java/lang/String" := (Ef250).keep K261q
  have Ff273 : Fld Z h261 b226 "java/lang/String" "coder" "B" (.int (0 : Int32)) := (Ff251).keep K261q List.not_mem_nil
  have Ff274 : Fld Z h261 b226 "java/lang/String" "value" "[B" (.ref b226b) := (Ff252).keep K261q List.not_mem_nil
  have Vf275 : Arv Z h261 b226b kb226b .byte (1 : Int32) ((([(own_ch v182)] : List Int32).map (fun c => c.toInt8.toInt32)).map Value.int) (.int (0 : Int32)) := (Vf253).keep K261q List.not_mem_nil
  have Ef276 : Exa Z h261 b239 "java/lang/String" := (Ob239_0).keep K261q
  have Ff277 : Fld Z h261 b239 "java/lang/String" "coder" "B" (.int (0 : Int32)) := (Ob239_1).keep K261q List.not_mem_nil
  have Ff278 : Fld Z h261 b239 "java/lang/String" "value" "[B" (.ref b239b) := (Ob239_2).keep K261q List.not_mem_nil
  have Vf279 : Arv Z h261 b239b kb239b .byte (1 : Int32) ((([(own_ch v191)] : List Int32).map (fun c => c.toInt8.toInt32)).map Value.int) (.int (0 : Int32)) := (Ob239b_0).keep K261q List.not_mem_nil
  have Ef280 : Exa Z h261 o258 "com/example/oversee/oversee/model/Direction" := (E_o258).keep K261q
  have pre281 : ∀ t, Steps p.tables e below (T261.setTop (mkF m 139 #[.val (.int p0), .val (.int p1), .val (.int p2), .val (.int p3), .val (.int v182), .val (.int v188), .val (.int v191), .val (.int v197), .val (.int v200), .val (.int v206), .val (.int v209), .val (.int v215), .unset, .unset, .unset, .unset, .unset] [(.ref b261), (.ref o258), (.ref b239), (.ref b226), (.ref b218), (.ref b218)])) t → Steps p.tables e below (s₁.setTop (entryFrame m #[(.int p0), (.int p1), (.int p2), (.int p3)] maxLocals)) t := fun t k => pre260 t (st261 t k)
  obtain ⟨_, _, ⟨T282, L282, k282, n282⟩, -, X282r, hS282r, hg282r, ⟨Lc282, hQ282, l282, y282, z282⟩, st282⟩ := X261.specialBackS hx (y := (⟨"com/example/oversee/oversee/model/Action", "<init>", "(Ljava/lang/String;Ljava/lang/String;Lcom/example/oversee/oversee/model/Direction;Ljava/lang/String;)V"⟩ : MethodName)) rfl hown (mvT hZ (hw _ (List.mem_of_getElem? (i := 43) rfl))) (mvT hZ (hw _ (List.mem_of_getElem? (i := 44) rfl))) (mvT hZ (hw _ (List.mem_of_getElem? (i := 45) rfl))) (by decide) (backOfS (W := 1) (rm9 l Z ar0 hw [] b218 b226 b239 o258 b261 .null .null .null .null h261 n0 Z261 Ef272 Ef267 Ef276 Ef280 Ob261_0 Ff268 Ff269 Ff270 Ff271 g_b218) hZ (hw _ (List.mem_of_getElem? (i := 45) rfl)) (hw _ (List.mem_of_getElem? (i := 2) rfl)) (by decide) (by decide)) (g := (mkF m 139 #[.val (.int p0), .val (.int p1), .val (.int p2), .val (.int p3), .val (.int v182), .val (.int v188), .val (.int v191), .val (.int v197), .val (.int v200), .val (.int v206), .val (.int v209), .val (.int v215), .unset, .unset, .unset, .unset, .unset] [(.ref b261), (.ref o258), (.ref b239), (.ref b226), (.ref b218), (.ref b218)])) rfl (by rw [hml]; rfl) (Steps.refl _) (a := b218) (argsL := [(.ref b226), (.ref b239), (.ref o258), (.ref b261)]) (rest := [(.ref b218)]) (lenOf pd_5 rfl) rfl (by show 2 * 0 + _ ≤ _; exact Nat.le_of_eq rfl) (hb hby at_139) (fun _ _ => ⟨rfl, e261, (by decide : 10 + 8 ≤ _), (by decide : 22 + 136 ≤ _)⟩)
  dsimp only [Pt.U, Pt.locs, Pt.cells, Pt.slots] at X282r hS282r hg282r l282 y282 z282 st282 hQ282
  subst l282 y282 z282
  obtain ⟨X282, hS282, hZ282, ho282⟩ := rebS (s := s) (vm0 := s.vm) (n1 := T261.heap.size) hS0 (by rw [e261]; exact hk261) X282r hS282r hg282r hZ hown
  obtain ⟨h282, e282⟩ : ∃ h, T282.heap = h := ⟨_, rfl⟩
  rw [e282] at hQ282
  obtain ⟨rfl, N282q, K282q, Q282_0, Q282_1, Q282_2, Q282_3, Q282_4⟩ := hQ282
  have N282 := Fr.app N261 N282q
  have Z282 : n0 ≤ h282.size := Nat.le_trans Z261 K282q.1
  have K282 : Keep h0 h282 [] := K261.trans K282q (fun x hx => by cases List.mem_singleton.mp hx; exact Or.inr sz_b218)
  have Sf283 : Sta Z h282 "java/lang/String" "COMPACT_STRINGS" "Z" (.int gc1) := own_sta_keep Sf262 K282q (own_ns1 (own_ns_exa Ef267))
  have Sf284 : Sta Z h282 "com/example/oversee/oversee/model/Direction" "SEND" "Lcom/example/oversee/oversee/model/Direction;" (.ref s_SEND) := own_sta_keep Sf263 K282q (own_ns1 (own_ns_exa Ef267))
  have Sf285 : Sta Z h282 "com/example/oversee/oversee/model/Direction" "RECEIVE" "Lcom/example/oversee/oversee/model/Direction;" (.ref s_RECEIVE) := own_sta_keep Sf264 K282q (own_ns1 (own_ns_exa Ef267))
  have Ef286 : Exa Z h282 s_SEND "com/example/oversee/oversee/model/Direction" := (Ef265).keep K282q
  have Ef287 : Exa Z h282 s_RECEIVE "com/example/oversee/oversee/model/Direction" := (Ef266).keep K282q
  have Ef288 : Exa Z h282 b218 "com/example/oversee/oversee/model/Action" := (Ef267).keep K282q
  have Ef289 : Exa Z h282 b226 "java/lang/String" := (Ef272).keep K282q
  have Ff290 : Fld Z h282 b226 "java/lang/String" "coder" "B" (.int (0 : Int32)) := (Ff273).keep K282q (fun q => absurd (List.mem_singleton.mp q) ne_b218_b226.symm)
  have Ff291 : Fld Z h282 b226 "java/lang/String" "value" "[B" (.ref b226b) := (Ff274).keep K282q (fun q => absurd (List.mem_singleton.mp q) ne_b218_b226.symm)
  have Vf292 : Arv Z h282 b226b kb226b .byte (1 : Int32) ((([(own_ch v182)] : List Int32).map (fun c => c.toInt8.toInt32)).map Value.int) (.int (0 : Int32)) := (Vf275).keep K282q (fun q => absurd (List.mem_singleton.mp q) ne_b218_b226b.symm)
  have Ef293 : Exa Z h282 b239 "java/lang/String" := (Ef276).keep K282q
  have Ff294 : Fld Z h282 b239 "java/lang/String" "coder" "B" (.int (0 : Int32)) := (Ff277).keep K282q (fun q => absurd (List.mem_singleton.mp q) ne_b218_b239.symm)
  have Ff295 : Fld Z h282 b239 "java/lang/String" "value" "[B" (.ref b239b) := (Ff278).keep K282q (fun q => absurd (List.mem_singleton.mp q) ne_b218_b239.symm)
  have Vf296 : Arv Z h282 b239b kb239b .byte (1 : Int32) ((([(own_ch v191)] : List Int32).map (fun c => c.toInt8.toInt32)).map Value.int) (.int (0 : Int32)) := (Vf279).keep K282q (fun q => absurd (List.mem_singleton.mp q) ne_b218_b239b.symm)
  have Ef297 : Exa Z h282 o258 "com/example/oversee/oversee/model/Direction" := (Ef280).keep K282q
  have Ef298 : Exa Z h282 b261 "java/lang/String" := (Ob261_0).keep K282q
  have Ff299 : Fld Z h282 b261 "java/lang/String" "coder" "B" (.int (0 : Int32)) := (Ob261_1).keep K282q (fun q => absurd (List.mem_singleton.mp q) ne_b218_b261.symm)
  have Ff300 : Fld Z h282 b261 "java/lang/String" "value" "[B" (.ref b261b) := (Ob261_2).keep K282q (fun q => absurd (List.mem_singleton.mp q) ne_b218_b261.symm)
  have Vf301 : Arv Z h282 b261b kb261b .byte (1 : Int32) ((([(own_ch v200)] : List Int32).map (fun c => c.toInt8.toInt32)).map Value.int) (.int (0 : Int32)) := (Ob261b_0).keep K282q (fun q => absurd (List.mem_singleton.mp q) ne_b218_b261b.symm)
  have hk282 : T282.heap.size ≤ h282.size := by rw [e282]; exact Nat.le_refl _
  have pre302 : ∀ t, Steps p.tables e below (T282.setTop (mkF m 142 #[.val (.int p0), .val (.int p1), .val (.int p2), .val (.int p3), .val (.int v182), .val (.int v188), .val (.int v191), .val (.int v197), .val (.int v200), .val (.int v206), .val (.int v209), .val (.int v215), .unset, .unset, .unset, .unset, .unset] [(.ref b218)])) t → Steps p.tables e below (s₁.setTop (entryFrame m #[(.int p0), (.int p1), (.int p2), (.int p3)] maxLocals)) t := fun t k => pre281 t (st282.trans k)
  have pre303 : ∀ t, Steps p.tables e below (T282.setTop (mkF m 144 #[.val (.int p0), .val (.int p1), .val (.int p2), .val (.int p3), .val (.int v182), .val (.int v188), .val (.int v191), .val (.int v197), .val (.int v200), .val (.int v206), .val (.int v209), .val (.int v215), .val (.ref b218), .unset, .unset, .unset, .unset] [])) t → Steps p.tables e below (s₁.setTop (entryFrame m #[(.int p0), (.int p1), (.int p2), (.int p3)] maxLocals)) t := by
    intro t k
    refine pre302 t ?_
    show Steps p.tables e below (T282.setTop (mkF m 142 #[.val (.int p0), .val (.int p1), .val (.int p2), .val (.int p3), .val (.int v182), .val (.int v188), .val (.int v191), .val (.int v197), .val (.int v200), .val (.int v206), .val (.int v209), .val (.int v215), .unset, .unset, .unset, .unset, .unset] [(.ref b218)])) _
    refine XS.astore X282.here hx rfl (hb hby at_142) rfl rfl (l' := #[.val (.int p0), .val (.int p1), .val (.int p2), .val (.int p3), .val (.int v182), .val (.int v188), .val (.int v191), .val (.int v197), .val (.int v200), .val (.int v206), .val (.int v209), .val (.int v215), .val (.ref b218), .unset, .unset, .unset, .unset]) rfl ?_
    exact k
  obtain ⟨T304, h304, X304, e304, E304, A304, D304, -, st304⟩ := newO X282 hx hZ282 ho282 (hw _ (List.mem_of_getElem? (i := 0) rfl)) (hw _ (List.mem_of_getElem? (i := 1) rfl)) (hw _ (List.mem_of_getElem? (i := 2) rfl)) e282 (g := (mkF m 144 #[.val (.int p0), .val (.int p1), .val (.int p2), .val (.int p3), .val (.int v182), .val (.int v188), .val (.int v191), .val (.int v197), .val (.int v200), .val (.int v206), .val (.int v209), .val (.int v215), .val (.ref b218), .unset, .unset, .unset, .unset] [])) rfl (hb hby at_144) (by decide) (by decide)
  obtain ⟨b304, g304⟩ : ∃ z, z = h282.size := ⟨_, rfl⟩
  rw [← g304] at A304 D304 st304
  have ne_s_SEND_b304 : s_SEND ≠ b304 := Nat.ne_of_lt (Nat.lt_of_lt_of_le (Ef286).lt (Nat.le_of_eq g304.symm))
  have ne_s_RECEIVE_b304 : s_RECEIVE ≠ b304 := Nat.ne_of_lt (Nat.lt_of_lt_of_le (Ef287).lt (Nat.le_of_eq g304.symm))
  have ne_b218_b304 : b218 ≠ b304 := Nat.ne_of_lt (Nat.lt_of_lt_of_le (Q282_0).lt (Nat.le_of_eq g304.symm))
  have ne_b226_b304 : b226 ≠ b304 := Nat.ne_of_lt (Nat.lt_of_lt_of_le (Ef289).lt (Nat.le_of_eq g304.symm))
  have ne_b226b_b304 : b226b ≠ b304 := Nat.ne_of_lt (Nat.lt_of_lt_of_le (Vf292).lt (Nat.le_of_eq g304.symm))
  have ne_b239_b304 : b239 ≠ b304 := Nat.ne_of_lt (Nat.lt_of_lt_of_le (Ef293).lt (Nat.le_of_eq g304.symm))
  have ne_b239b_b304 : b239b ≠ b304 := Nat.ne_of_lt (Nat.lt_of_lt_of_le (Vf296).lt (Nat.le_of_eq g304.symm))
  have ne_o258_b304 : o258 ≠ b304 := Nat.ne_of_lt (Nat.lt_of_lt_of_le (Ef297).lt (Nat.le_of_eq g304.symm))
  have ne_b261_b304 : b261 ≠ b304 := Nat.ne_of_lt (Nat.lt_of_lt_of_le (Ef298).lt (Nat.le_of_eq g304.symm))
  have ne_b261b_b304 : b261b ≠ b304 := Nat.ne_of_lt (Nat.lt_of_lt_of_le (Vf301).lt (Nat.le_of_eq g304.symm))
  have g_b304 : n0 ≤ b304 := Nat.le_trans Z282 (Nat.le_of_eq g304.symm)
  have sz_b304 : h0.size ≤ b304 := Nat.le_trans K282.1 (Nat.le_of_eq g304.symm)
  have Z304 : n0 ≤ h304.size := Nat.le_trans Z282 E304.1
  have K304 : Keep h0 h304 [] := K282.ext E304
  have hk304 := Nat.le_trans hk282 E304.1
  have Sf305 : Sta Z h304 "java/lang/String" "COMPACT_STRINGS" "Z" (.int gc1) := (Sf283).ext E304
  have Sf306 : Sta Z h304 "com/example/oversee/oversee/model/Direction" "SEND" "Lcom/example/oversee/oversee/model/Direction;" (.ref s_SEND) := (Sf284).ext E304
  have Sf307 : Sta Z h304 "com/example/oversee/oversee/model/Direction" "RECEIVE" "Lcom/example/oversee/oversee/model/Direction;" (.ref s_RECEIVE) := (Sf285).ext E304
  have Ef308 : Exa Z h304 s_SEND "com/example/oversee/oversee/model/Direction" := (Ef286).ext E304
  have Ef309 : Exa Z h304 s_RECEIVE "com/example/oversee/oversee/model/Direction" := (Ef287).ext E304
  have Ef310 : Exa Z h304 b218 "com/example/oversee/oversee/model/Action" := (Q282_0).ext E304
  have Ef311 : Exa Z h304 b226 "java/lang/String" := (Ef289).ext E304
  have Ff312 : Fld Z h304 b226 "java/lang/String" "coder" "B" (.int (0 : Int32)) := (Ff290).ext E304
  have Ff313 : Fld Z h304 b226 "java/lang/String" "value" "[B" (.ref b226b) := (Ff291).ext E304
  have Vf314 : Arv Z h304 b226b kb226b .byte (1 : Int32) ((([(own_ch v182)] : List Int32).map (fun c => c.toInt8.toInt32)).map Value.int) (.int (0 : Int32)) := (Vf292).ext E304
  have Ef315 : Exa Z h304 b239 "java/lang/String" := (Ef293).ext E304
  have Ff316 : Fld Z h304 b239 "java/lang/String" "coder" "B" (.int (0 : Int32)) := (Ff294).ext E304
  have Ff317 : Fld Z h304 b239 "java/lang/String" "value" "[B" (.ref b239b) := (Ff295).ext E304
  have Vf318 : Arv Z h304 b239b kb239b .byte (1 : Int32) ((([(own_ch v191)] : List Int32).map (fun c => c.toInt8.toInt32)).map Value.int) (.int (0 : Int32)) := (Vf296).ext E304
  have Ef319 : Exa Z h304 o258 "com/example/oversee/oversee/model/Direction" := (Ef297).ext E304
  have Ef320 : Exa Z h304 b261 "java/lang/String" := (Ef298).ext E304
  have Ff321 : Fld Z h304 b261 "java/lang/String" "coder" "B" (.int (0 : Int32)) := (Ff299).ext E304
  have Ff322 : Fld Z h304 b261 "java/lang/String" "value" "[B" (.ref b261b) := (Ff300).ext E304
  have Vf323 : Arv Z h304 b261b kb261b .byte (1 : Int32) ((([(own_ch v200)] : List Int32).map (fun c => c.toInt8.toInt32)).map Value.int) (.int (0 : Int32)) := (Vf301).ext E304
  have Ff324 : Fld Z h304 b218 "com/example/oversee/oversee/model/Action" "sender" "Ljava/lang/String;" (.ref b226) := (Q282_1).ext E304
  have Ff325 : Fld Z h304 b218 "com/example/oversee/oversee/model/Action" "receiver" "Ljava/lang/String;" (.ref b239) := (Q282_2).ext E304
  have Ff326 : Fld Z h304 b218 "com/example/oversee/oversee/model/Action" "direction" "Lcom/example/oversee/oversee/model/Direction;" (.ref o258) := (Q282_3).ext E304
  have Ff327 : Fld Z h304 b218 "com/example/oversee/oversee/model/Action" "message" "Ljava/lang/String;" (.ref b261) := (Q282_4).ext E304
  have Fsender_b304 : Fld Z h304 b304 "com/example/oversee/oversee/model/Action" "sender" "Ljava/lang/String;" .null := D304 (Or.inr (hw _ (List.mem_of_getElem? (i := 56) rfl))) (ty := (.object "java/lang/String")) (by decide)
  have Freceiver_b304 : Fld Z h304 b304 "com/example/oversee/oversee/model/Action" "receiver" "Ljava/lang/String;" .null := D304 (Or.inr (hw _ (List.mem_of_getElem? (i := 59) rfl))) (ty := (.object "java/lang/String")) (by decide)
  have Fdirection_b304 : Fld Z h304 b304 "com/example/oversee/oversee/model/Action" "direction" "Lcom/example/oversee/oversee/model/Direction;" .null := D304 (Or.inr (hw _ (List.mem_of_getElem? (i := 64) rfl))) (ty := (.object "com/example/oversee/oversee/model/Direction")) (by decide)
  have Fmessage_b304 : Fld Z h304 b304 "com/example/oversee/oversee/model/Action" "message" "Ljava/lang/String;" .null := D304 (Or.inr (hw _ (List.mem_of_getElem? (i := 67) rfl))) (ty := (.object "java/lang/String")) (by decide)
  have pre328 : ∀ t, Steps p.tables e below (T304.setTop (mkF m 147 #[.val (.int p0), .val (.int p1), .val (.int p2), .val (.int p3), .val (.int v182), .val (.int v188), .val (.int v191), .val (.int v197), .val (.int v200), .val (.int v206), .val (.int v209), .val (.int v215), .val (.ref b218), .unset, .unset, .unset, .unset] [(.ref b304)])) t → Steps p.tables e below (s₁.setTop (entryFrame m #[(.int p0), (.int p1), (.int p2), (.int p3)] maxLocals)) t := fun t k => pre303 t (st304 t k)
  have pre329 : ∀ t, Steps p.tables e below (T304.setTop (mkF m 150 #[.val (.int p0), .val (.int p1), .val (.int p2), .val (.int p3), .val (.int v182), .val (.int v188), .val (.int v191), .val (.int v197), .val (.int v200), .val (.int v206), .val (.int v209), .val (.int v215), .val (.ref b218), .unset, .unset, .unset, .unset] [(.int v188), (.ref b304), (.ref b304)])) t → Steps p.tables e below (s₁.setTop (entryFrame m #[(.int p0), (.int p1), (.int p2), (.int p3)] maxLocals)) t := by
    intro t k
    refine pre328 t ?_
    show Steps p.tables e below (T304.setTop (mkF m 147 #[.val (.int p0), .val (.int p1), .val (.int p2), .val (.int p3), .val (.int v182), .val (.int v188), .val (.int v191), .val (.int v197), .val (.int v200), .val (.int v206), .val (.int v209), .val (.int v215), .val (.ref b218), .unset, .unset, .unset, .unset] [(.ref b304)])) _
    refine XS.dup X304.here hx rfl (hb hby at_147) rfl rfl ?_
    refine XS.iload X304.here hx rfl (hb hby at_148) rfl ?_
    exact k
  obtain ⟨_, _, ⟨T330, L330, k330, n330⟩, -, X330, ⟨Lc330, hQ330, l330, y330, z330⟩, st330⟩ := Jvm.LawKit.callS X304 hx (y := (⟨"com/example/oversee/oversee/model/ActionEqualsPinLaw", "str", "(I)Ljava/lang/String;"⟩ : MethodName)) ho282 (mvT hZ282 (hw _ (List.mem_of_getElem? (i := 3) rfl))) (mvT hZ282 (hw _ (List.mem_of_getElem? (i := 4) rfl))) (mvT hZ282 (hw _ (List.mem_of_getElem? (i := 5) rfl))) (mvT hZ282 (hw _ (List.mem_of_getElem? (i := 6) rfl))) (by decide) (backOf (W := 2) (rm1 l Z ar0 hw [] v188 gc1 h304 n0 Z304 P5 Sf305) hZ282 (hw _ (List.mem_of_getElem? (i := 6) rfl)) (hw _ (List.mem_of_getElem? (i := 5) rfl)) (by decide) (by decide)) (g := (mkF m 150 #[.val (.int p0), .val (.int p1), .val (.int p2), .val (.int p3), .val (.int v182), .val (.int v188), .val (.int v191), .val (.int v197), .val (.int v200), .val (.int v206), .val (.int v209), .val (.int v215), .val (.ref b218), .unset, .unset, .unset, .unset] [(.int v188), (.ref b304), (.ref b304)])) rfl (by rw [hml]; rfl) (argsL := [(.int v188)]) (rest := [(.ref b304), (.ref b304)]) (lenOf pd_3 rfl) rfl (by show 2 * 0 + _ ≤ _; exact Nat.le_of_eq rfl) (hb hby at_150) (fun _ _ => ⟨rfl, e304, (by decide : 19 + 3 ≤ _), (by decide : 162 + 6 ≤ _)⟩)
  dsimp only [Pt.U, Pt.locs, Pt.cells, Pt.slots] at X330 l330 y330 z330 st330 hQ330
  subst l330 y330 z330
  obtain ⟨h330, e330⟩ : ∃ h, T330.heap = h := ⟨_, rfl⟩
  rw [e330] at hQ330
  obtain ⟨b330, b330b, kb330b, rfl, N330q, K330q, y_b330, Ob330_0, Ob330_1, Ob330_2, y_b330b, Ob330b_0⟩ := hQ330
  have N330 := Fr.app N282 N330q
  have ne_s_SEND_b330 : s_SEND ≠ b330 := Nat.ne_of_lt (Nat.lt_of_lt_of_le (Ef308).lt y_b330)
  have ne_s_RECEIVE_b330 : s_RECEIVE ≠ b330 := Nat.ne_of_lt (Nat.lt_of_lt_of_le (Ef309).lt y_b330)
  have ne_b218_b330 : b218 ≠ b330 := Nat.ne_of_lt (Nat.lt_of_lt_of_le (Ef310).lt y_b330)
  have ne_b226_b330 : b226 ≠ b330 := Nat.ne_of_lt (Nat.lt_of_lt_of_le (Ef311).lt y_b330)
  have ne_b226b_b330 : b226b ≠ b330 := Nat.ne_of_lt (Nat.lt_of_lt_of_le (Vf314).lt y_b330)
  have ne_b239_b330 : b239 ≠ b330 := Nat.ne_of_lt (Nat.lt_of_lt_of_le (Ef315).lt y_b330)
  have ne_b239b_b330 : b239b ≠ b330 := Nat.ne_of_lt (Nat.lt_of_lt_of_le (Vf318).lt y_b330)
  have ne_o258_b330 : o258 ≠ b330 := Nat.ne_of_lt (Nat.lt_of_lt_of_le (Ef319).lt y_b330)
  have ne_b261_b330 : b261 ≠ b330 := Nat.ne_of_lt (Nat.lt_of_lt_of_le (Ef320).lt y_b330)
  have ne_b261b_b330 : b261b ≠ b330 := Nat.ne_of_lt (Nat.lt_of_lt_of_le (Vf323).lt y_b330)
  have ne_b304_b330 : b304 ≠ b330 := Nat.ne_of_lt (Nat.lt_of_lt_of_le (A304).lt y_b330)
  have g_b330 : n0 ≤ b330 := Nat.le_trans Z304 y_b330
  have sz_b330 : h0.size ≤ b330 := Nat.le_trans K304.1 y_b330
  have ne_s_SEND_b330b : s_SEND ≠ b330b := Nat.ne_of_lt (Nat.lt_of_lt_of_le (Ef308).lt y_b330b)
  have ne_s_RECEIVE_b330b : s_RECEIVE ≠ b330b := Nat.ne_of_lt (Nat.lt_of_lt_of_le (Ef309).lt y_b330b)
  have ne_b218_b330b : b218 ≠ b330b := Nat.ne_of_lt (Nat.lt_of_lt_of_le (Ef310).lt y_b330b)
  have ne_b226_b330b : b226 ≠ b330b := Nat.ne_of_lt (Nat.lt_of_lt_of_le (Ef311).lt y_b330b)
  have ne_b226b_b330b : b226b ≠ b330b := Nat.ne_of_lt (Nat.lt_of_lt_of_le (Vf314).lt y_b330b)
  have ne_b239_b330b : b239 ≠ b330b := Nat.ne_of_lt (Nat.lt_of_lt_of_le (Ef315).lt y_b330b)
  have ne_b239b_b330b : b239b ≠ b330b := Nat.ne_of_lt (Nat.lt_of_lt_of_le (Vf318).lt y_b330b)
  have ne_o258_b330b : o258 ≠ b330b := Nat.ne_of_lt (Nat.lt_of_lt_of_le (Ef319).lt y_b330b)
  have ne_b261_b330b : b261 ≠ b330b := Nat.ne_of_lt (Nat.lt_of_lt_of_le (Ef320).lt y_b330b)
  have ne_b261b_b330b : b261b ≠ b330b := Nat.ne_of_lt (Nat.lt_of_lt_of_le (Vf323).lt y_b330b)
  have ne_b304_b330b : b304 ≠ b330b := Nat.ne_of_lt (Nat.lt_of_lt_of_le (A304).lt y_b330b)
  have g_b330b : n0 ≤ b330b := Nat.le_trans Z304 y_b330b
  have sz_b330b : h0.size ≤ b330b := Nat.le_trans K304.1 y_b330b
  have Z330 : n0 ≤ h330.size := Nat.le_trans Z304 K330q.1
  have hk330 := Nat.le_trans hk304 K330q.1
  have K330 : Keep h0 h330 [] := K304.trans K330q (fun x hx => absurd hx List.not_mem_nil)
  have Sf331 : Sta Z h330 "java/lang/String" "COMPACT_STRINGS" "Z" (.int gc1) := own_sta_keep0 Sf305 K330q
  have Sf332 : Sta Z h330 "com/example/oversee/oversee/model/Direction" "SEND" "Lcom/example/oversee/oversee/model/Direction;" (.ref s_SEND) := own_sta_keep0 Sf306 K330q
  have Sf333 : Sta Z h330 "com/example/oversee/oversee/model/Direction" "RECEIVE" "Lcom/example/oversee/oversee/model/Direction;" (.ref s_RECEIVE) := own_sta_keep0 Sf307 K330q
  have Ef334 : Exa Z h330 s_SEND "com/example/oversee/oversee/model/Direction" := (Ef308).keep K330q
  have Ef335 : Exa Z h330 s_RECEIVE "com/example/oversee/oversee/model/Direction" := (Ef309).keep K330q
  have Ef336 : Exa Z h330 b218 "com/example/oversee/oversee/model/Action" := (Ef310).keep K330q
  have Ef337 : Exa Z h330 b226 "java/lang/String" := (Ef311).keep K330q
  have Ff338 : Fld Z h330 b226 "java/lang/String" "coder" "B" (.int (0 : Int32)) := (Ff312).keep K330q List.not_mem_nil
  have Ff339 : Fld Z h330 b226 "java/lang/String" "value" "[B" (.ref b226b) := (Ff313).keep K330q List.not_mem_nil
  have Vf340 : Arv Z h330 b226b kb226b .byte (1 : Int32) ((([(own_ch v182)] : List Int32).map (fun c => c.toInt8.toInt32)).map Value.int) (.int (0 : Int32)) := (Vf314).keep K330q List.not_mem_nil
  have Ef341 : Exa Z h330 b239 "java/lang/String" := (Ef315).keep K330q
  have Ff342 : Fld Z h330 b239 "java/lang/String" "coder" "B" (.int (0 : Int32)) := (Ff316).keep K330q List.not_mem_nil
  have Ff343 : Fld Z h330 b239 "java/lang/String" "value" "[B" (.ref b239b) := (Ff317).keep K330q List.not_mem_nil
  have Vf344 : Arv Z h330 b239b kb239b .byte (1 : Int32) ((([(own_ch v191)] : List Int32).map (fun c => c.toInt8.toInt32)).map Value.int) (.int (0 : Int32)) := (Vf318).keep K330q List.not_mem_nil
  have Ef345 : Exa Z h330 o258 "com/example/oversee/oversee/model/Direction" := (Ef319).keep K330q
  have Ef346 : Exa Z h330 b261 "java/lang/String" := (Ef320).keep K330q
  have Ff347 : Fld Z h330 b261 "java/lang/String" "coder" "B" (.int (0 : Int32)) := (Ff321).keep K330q List.not_mem_nil
  have Ff348 : Fld Z h330 b261 "java/lang/String" "value" "[B" (.ref b261b) := (Ff322).keep K330q List.not_mem_nil
  have Vf349 : Arv Z h330 b261b kb261b .byte (1 : Int32) ((([(own_ch v200)] : List Int32).map (fun c => c.toInt8.toInt32)).map Value.int) (.int (0 : Int32)) := (Vf323).keep K330q List.not_mem_nil
  have Ff350 : Fld Z h330 b218 "com/example/oversee/oversee/model/Action" "sender" "Ljava/lang/String;" (.ref b226) := (Ff324).keep K330q List.not_mem_nil
  have Ff351 : Fld Z h330 b218 "com/example/oversee/oversee/model/Action" "receiver" "Ljava/lang/String;" (.ref b239) := (Ff325).keep K330q List.not_mem_nil
  have Ff352 : Fld Z h330 b218 "com/example/oversee/oversee/model/Action" "direction" "Lcom/example/oversee/oversee/model/Direction;" (.ref o258) := (Ff326).keep K330q List.not_mem_nil
  have Ff353 : Fld Z h330 b218 "com/example/oversee/oversee/model/Action" "message" "Ljava/lang/String;" (.ref b261) := (Ff327).keep K330q List.not_mem_nil
  have Ef354 : Exa Z h330 b304 "com/example/oversee/oversee/model/Action" := (A304).keep K330q
  have Ff355 : Fld Z h330 b304 "com/example/oversee/oversee/model/Action" "sender" "Ljava/lang/String;" .null := (Fsender_b304).keep K330q List.not_mem_nil
  have Ff356 : Fld Z h330 b304 "com/example/oversee/oversee/model/Action" "receiver" "Ljava/lang/String;" .null := (Freceiver_b304).keep K330q List.not_mem_nil
  have Ff357 : Fld Z h330 b304 "com/example/oversee/oversee/model/Action" "direction" "Lcom/example/oversee/oversee/model/Direction;" .null := (Fdirection_b304).keep K330q List.not_mem_nil
  have Ff358 : Fld Z h330 b304 "com/example/oversee/oversee/model/Action" "message" "Ljava/lang/String;" .null := (Fmessage_b304).keep K330q List.not_mem_nil
  have pre359 : ∀ t, Steps p.tables e below (T330.setTop (mkF m 153 #[.val (.int p0), .val (.int p1), .val (.int p2), .val (.int p3), .val (.int v182), .val (.int v188), .val (.int v191), .val (.int v197), .val (.int v200), .val (.int v206), .val (.int v209), .val (.int v215), .val (.ref b218), .unset, .unset, .unset, .unset] [(.ref b330), (.ref b304), (.ref b304)])) t → Steps p.tables e below (s₁.setTop (entryFrame m #[(.int p0), (.int p1), (.int p2), (.int p3)] maxLocals)) t := fun t k => pre329 t (st330 t k)
  have pre360 : ∀ t, Steps p.tables e below (T330.setTop (mkF m 155 #[.val (.int p0), .val (.int p1), .val (.int p2), .val (.int p3), .val (.int v182), .val (.int v188), .val (.int v191), .val (.int v197), .val (.int v200), .val (.int v206), .val (.int v209), .val (.int v215), .val (.ref b218), .unset, .unset, .unset, .unset] [(.int v197), (.ref b330), (.ref b304), (.ref b304)])) t → Steps p.tables e below (s₁.setTop (entryFrame m #[(.int p0), (.int p1), (.int p2), (.int p3)] maxLocals)) t := by
    intro t k
    refine pre359 t ?_
    show Steps p.tables e below (T330.setTop (mkF m 153 #[.val (.int p0), .val (.int p1), .val (.int p2), .val (.int p3), .val (.int v182), .val (.int v188), .val (.int v191), .val (.int v197), .val (.int v200), .val (.int v206), .val (.int v209), .val (.int v215), .val (.ref b218), .unset, .unset, .unset, .unset] [(.ref b330), (.ref b304), (.ref b304)])) _
    refine XS.iload X330.here hx rfl (hb hby at_153) rfl ?_
    exact k
  obtain ⟨_, _, ⟨T361, L361, k361, n361⟩, -, X361, ⟨Lc361, hQ361, l361, y361, z361⟩, st361⟩ := Jvm.LawKit.callS X330 hx (y := (⟨"com/example/oversee/oversee/model/ActionEqualsPinLaw", "str", "(I)Ljava/lang/String;"⟩ : MethodName)) ho282 (mvT hZ282 (hw _ (List.mem_of_getElem? (i := 3) rfl))) (mvT hZ282 (hw _ (List.mem_of_getElem? (i := 4) rfl))) (mvT hZ282 (hw _ (List.mem_of_getElem? (i := 5) rfl))) (mvT hZ282 (hw _ (List.mem_of_getElem? (i := 6) rfl))) (by decide) (backOf (W := 3) (rm1 l Z ar0 hw [] v197 gc1 h330 n0 Z330 P5 Sf331) hZ282 (hw _ (List.mem_of_getElem? (i := 6) rfl)) (hw _ (List.mem_of_getElem? (i := 5) rfl)) (by decide) (by decide)) (g := (mkF m 155 #[.val (.int p0), .val (.int p1), .val (.int p2), .val (.int p3), .val (.int v182), .val (.int v188), .val (.int v191), .val (.int v197), .val (.int v200), .val (.int v206), .val (.int v209), .val (.int v215), .val (.ref b218), .unset, .unset, .unset, .unset] [(.int v197), (.ref b330), (.ref b304), (.ref b304)])) rfl (by rw [hml]; rfl) (argsL := [(.int v197)]) (rest := [(.ref b330), (.ref b304), (.ref b304)]) (lenOf pd_3 rfl) rfl (by show 2 * 0 + _ ≤ _; exact Nat.le_of_eq rfl) (hb hby at_155) (fun _ _ => ⟨rfl, e330, (by decide : 22 + 3 ≤ _), (by decide : 168 + 6 ≤ _)⟩)
  dsimp only [Pt.U, Pt.locs, Pt.cells, Pt.slots] at X361 l361 y361 z361 st361 hQ361
  subst l361 y361 z361
  obtain ⟨h361, e361⟩ : ∃ h, T361.heap = h := ⟨_, rfl⟩
  rw [e361] at hQ361
  obtain ⟨b361, b361b, kb361b, rfl, N361q, K361q, y_b361, Ob361_0, Ob361_1, Ob361_2, y_b361b, Ob361b_0⟩ := hQ361
  have N361 := Fr.app N330 N361q
  have ne_s_SEND_b361 : s_SEND ≠ b361 := Nat.ne_of_lt (Nat.lt_of_lt_of_le (Ef334).lt y_b361)
  have ne_s_RECEIVE_b361 : s_RECEIVE ≠ b361 := Nat.ne_of_lt (Nat.lt_of_lt_of_le (Ef335).lt y_b361)
  have ne_b218_b361 : b218 ≠ b361 := Nat.ne_of_lt (Nat.lt_of_lt_of_le (Ef336).lt y_b361)
  have ne_b226_b361 : b226 ≠ b361 := Nat.ne_of_lt (Nat.lt_of_lt_of_le (Ef337).lt y_b361)
  have ne_b226b_b361 : b226b ≠ b361 := Nat.ne_of_lt (Nat.lt_of_lt_of_le (Vf340).lt y_b361)
  have ne_b239_b361 : b239 ≠ b361 := Nat.ne_of_lt (Nat.lt_of_lt_of_le (Ef341).lt y_b361)
  have ne_b239b_b361 : b239b ≠ b361 := Nat.ne_of_lt (Nat.lt_of_lt_of_le (Vf344).lt y_b361)
  have ne_o258_b361 : o258 ≠ b361 := Nat.ne_of_lt (Nat.lt_of_lt_of_le (Ef345).lt y_b361)
  have ne_b261_b361 : b261 ≠ b361 := Nat.ne_of_lt (Nat.lt_of_lt_of_le (Ef346).lt y_b361)
  have ne_b261b_b361 : b261b ≠ b361 := Nat.ne_of_lt (Nat.lt_of_lt_of_le (Vf349).lt y_b361)
  have ne_b304_b361 : b304 ≠ b361 := Nat.ne_of_lt (Nat.lt_of_lt_of_le (Ef354).lt y_b361)
  have ne_b330_b361 : b330 ≠ b361 := Nat.ne_of_lt (Nat.lt_of_lt_of_le (Ob330_0).lt y_b361)
  have ne_b330b_b361 : b330b ≠ b361 := Nat.ne_of_lt (Nat.lt_of_lt_of_le (Ob330b_0).lt y_b361)
  have g_b361 : n0 ≤ b361 := Nat.le_trans Z330 y_b361
  have sz_b361 : h0.size ≤ b361 := Nat.le_trans K330.1 y_b361
  have ne_s_SEND_b361b : s_SEND ≠ b361b := Nat.ne_of_lt (Nat.lt_of_lt_of_le (Ef334).lt y_b361b)
  have ne_s_RECEIVE_b361b : s_RECEIVE ≠ b361b := Nat.ne_of_lt (Nat.lt_of_lt_of_le (Ef335).lt y_b361b)
  have ne_b218_b361b : b218 ≠ b361b := Nat.ne_of_lt (Nat.lt_of_lt_of_le (Ef336).lt y_b361b)
  have ne_b226_b361b : b226 ≠ b361b := Nat.ne_of_lt (Nat.lt_of_lt_of_le (Ef337).lt y_b361b)
  have ne_b226b_b361b : b226b ≠ b361b := Nat.ne_of_lt (Nat.lt_of_lt_of_le (Vf340).lt y_b361b)
  have ne_b239_b361b : b239 ≠ b361b := Nat.ne_of_lt (Nat.lt_of_lt_of_le (Ef341).lt y_b361b)
  have ne_b239b_b361b : b239b ≠ b361b := Nat.ne_of_lt (Nat.lt_of_lt_of_le (Vf344).lt y_b361b)
  have ne_o258_b361b : o258 ≠ b361b := Nat.ne_of_lt (Nat.lt_of_lt_of_le (Ef345).lt y_b361b)
  have ne_b261_b361b : b261 ≠ b361b := Nat.ne_of_lt (Nat.lt_of_lt_of_le (Ef346).lt y_b361b)
  have ne_b261b_b361b : b261b ≠ b361b := Nat.ne_of_lt (Nat.lt_of_lt_of_le (Vf349).lt y_b361b)
  have ne_b304_b361b : b304 ≠ b361b := Nat.ne_of_lt (Nat.lt_of_lt_of_le (Ef354).lt y_b361b)
  have ne_b330_b361b : b330 ≠ b361b := Nat.ne_of_lt (Nat.lt_of_lt_of_le (Ob330_0).lt y_b361b)
  have ne_b330b_b361b : b330b ≠ b361b := Nat.ne_of_lt (Nat.lt_of_lt_of_le (Ob330b_0).lt y_b361b)
  have g_b361b : n0 ≤ b361b := Nat.le_trans Z330 y_b361b
  have sz_b361b : h0.size ≤ b361b := Nat.le_trans K330.1 y_b361b
  have Z361 : n0 ≤ h361.size := Nat.le_trans Z330 K361q.1
  have hk361 := Nat.le_trans hk330 K361q.1
  have K361 : Keep h0 h361 [] := K330.trans K361q (fun x hx => absurd hx List.not_mem_nil)
  have Sf362 : Sta Z h361 "java/lang/String" "COMPACT_STRINGS" "Z" (.int gc1) := own_sta_keep0 Sf331 K361q
  have Sf363 : Sta Z h361 "com/example/oversee/oversee/model/Direction" "SEND" "Lcom/example/oversee/oversee/model/Direction;" (.ref s_SEND) := own_sta_keep0 Sf332 K361q
  have Sf364 : Sta Z h361 "com/example/oversee/oversee/model/Direction" "RECEIVE" "Lcom/example/oversee/oversee/model/Direction;" (.ref s_RECEIVE) := own_sta_keep0 Sf333 K361q
  have Ef365 : Exa Z h361 s_SEND "com/example/oversee/oversee/model/Direction" := (Ef334).keep K361q
  have Ef366 : Exa Z h361 s_RECEIVE "com/example/oversee/oversee/model/Direction" := (Ef335).keep K361q
  have Ef367 : Exa Z h361 b218 "com/example/oversee/oversee/model/Action" := (Ef336).keep K361q
  have Ef368 : Exa Z h361 b226 "java/lang/String" := (Ef337).keep K361q
  have Ff369 : Fld Z h361 b226 "java/lang/String" "coder" "B" (.int (0 : Int32)) := (Ff338).keep K361q List.not_mem_nil
  have Ff370 : Fld Z h361 b226 "java/lang/String" "value" "[B" (.ref b226b) := (Ff339).keep K361q List.not_mem_nil
  have Vf371 : Arv Z h361 b226b kb226b .byte (1 : Int32) ((([(own_ch v182)] : List Int32).map (fun c => c.toInt8.toInt32)).map Value.int) (.int (0 : Int32)) := (Vf340).keep K361q List.not_mem_nil
  have Ef372 : Exa Z h361 b239 "java/lang/String" := (Ef341).keep K361q
  have Ff373 : Fld Z h361 b239 "java/lang/String" "coder" "B" (.int (0 : Int32)) := (Ff342).keep K361q List.not_mem_nil
  have Ff374 : Fld Z h361 b239 "java/lang/String" "value" "[B" (.ref b239b) := (Ff343).keep K361q List.not_mem_nil
  have Vf375 : Arv Z h361 b239b kb239b .byte (1 : Int32) ((([(own_ch v191)] : List Int32).map (fun c => c.toInt8.toInt32)).map Value.int) (.int (0 : Int32)) := (Vf344).keep K361q List.not_mem_nil
  have Ef376 : Exa Z h361 o258 "com/example/oversee/oversee/model/Direction" := (Ef345).keep K361q
  have Ef377 : Exa Z h361 b261 "java/lang/String" := (Ef346).keep K361q
  have Ff378 : Fld Z h361 b261 "java/lang/String" "coder" "B" (.int (0 : Int32)) := (Ff347).keep K361q List.not_mem_nil
  have Ff379 : Fld Z h361 b261 "java/lang/String" "value" "[B" (.ref b261b) := (Ff348).keep K361q List.not_mem_nil
  have Vf380 : Arv Z h361 b261b kb261b .byte (1 : Int32) ((([(own_ch v200)] : List Int32).map (fun c => c.toInt8.toInt32)).map Value.int) (.int (0 : Int32)) := (Vf349).keep K361q List.not_mem_nil
  have Ff381 : Fld Z h361 b218 "com/example/oversee/oversee/model/Action" "sender" "Ljava/lang/String;" (.ref b226) := (Ff350).keep K361q List.not_mem_nil
  have Ff382 : Fld Z h361 b218 "com/example/oversee/oversee/model/Action" "receiver" "Ljava/lang/String;" (.ref b239) := (Ff351).keep K361q List.not_mem_nil
  have Ff383 : Fld Z h361 b218 "com/example/oversee/oversee/model/Action" "direction" "Lcom/example/oversee/oversee/model/Direction;" (.ref o258) := (Ff352).keep K361q List.not_mem_nil
  have Ff384 : Fld Z h361 b218 "com/example/oversee/oversee/model/Action" "message" "Ljava/lang/String;" (.ref b261) := (Ff353).keep K361q List.not_mem_nil
  have Ef385 : Exa Z h361 b304 "com/example/oversee/oversee/model/Action" := (Ef354).keep K361q
  have Ff386 : Fld Z h361 b304 "com/example/oversee/oversee/model/Action" "sender" "Ljava/lang/String;" .null := (Ff355).keep K361q List.not_mem_nil
  have Ff387 : Fld Z h361 b304 "com/example/oversee/oversee/model/Action" "receiver" "Ljava/lang/String;" .null := (Ff356).keep K361q List.not_mem_nil
  have Ff388 : Fld Z h361 b304 "com/example/oversee/oversee/model/Action" "direction" "Lcom/example/oversee/oversee/model/Direction;" .null := (Ff357).keep K361q List.not_mem_nil
  have Ff389 : Fld Z h361 b304 "com/example/oversee/oversee/model/Action" "message" "Ljava/lang/String;" .null := (Ff358).keep K361q List.not_mem_nil
  have Ef390 : Exa Z h361 b330 "java/lang/String" := (Ob330_0).keep K361q
  have Ff391 : Fld Z h361 b330 "java/lang/String" "coder" "B" (.int (0 : Int32)) := (Ob330_1).keep K361q List.not_mem_nil
  have Ff392 : Fld Z h361 b330 "java/lang/String" "value" "[B" (.ref b330b) := (Ob330_2).keep K361q List.not_mem_nil
  have Vf393 : Arv Z h361 b330b kb330b .byte (1 : Int32) ((([(own_ch v188)] : List Int32).map (fun c => c.toInt8.toInt32)).map Value.int) (.int (0 : Int32)) := (Ob330b_0).keep K361q List.not_mem_nil
  have pre394 : ∀ t, Steps p.tables e below (T361.setTop (mkF m 158 #[.val (.int p0), .val (.int p1), .val (.int p2), .val (.int p3), .val (.int v182), .val (.int v188), .val (.int v191), .val (.int v197), .val (.int v200), .val (.int v206), .val (.int v209), .val (.int v215), .val (.ref b218), .unset, .unset, .unset, .unset] [(.ref b361), (.ref b330), (.ref b304), (.ref b304)])) t → Steps p.tables e below (s₁.setTop (entryFrame m #[(.int p0), (.int p1), (.int p2), (.int p3)] maxLocals)) t := fun t k => pre360 t (st361 t k)
  have pre395 : ∀ t, Steps p.tables e below (T361.setTop (mkF m 160 #[.val (.int p0), .val (.int p1), .val (.int p2), .val (.int p3), .val (.int v182), .val (.int v188), .val (.int v191), .val (.int v197), .val (.int v200), .val (.int v206), .val (.int v209), .val (.int v215), .val (.ref b218), .unset, .unset, .unset, .unset] [(.int v215), (.ref b361), (.ref b330), (.ref b304), (.ref b304)])) t → Steps p.tables e below (s₁.setTop (entryFrame m #[(.int p0), (.int p1), (.int p2), (.int p3)] maxLocals)) t := by
    intro t k
    refine pre394 t ?_
    show Steps p.tables e below (T361.setTop (mkF m 158 #[.val (.int p0), .val (.int p1), .val (.int p2), .val (.int p3), .val (.int v182), .val (.int v188), .val (.int v191), .val (.int v197), .val (.int v200), .val (.int v206), .val (.int v209), .val (.int v215), .val (.ref b218), .unset, .unset, .unset, .unset] [(.ref b361), (.ref b330), (.ref b304), (.ref b304)])) _
    refine XS.iload X361.here hx rfl (hb hby at_158) rfl ?_
    exact k
  obtain ⟨_, _, ⟨T396, L396, k396, n396⟩, -, X396, ⟨Lc396, hQ396, l396, y396, z396⟩, st396⟩ := Jvm.LawKit.callS X361 hx (y := (⟨"com/example/oversee/oversee/model/ActionEqualsPinLaw", "dir", "(I)Lcom/example/oversee/oversee/model/Direction;"⟩ : MethodName)) ho282 (mvT hZ282 (hw _ (List.mem_of_getElem? (i := 37) rfl))) (mvT hZ282 (hw _ (List.mem_of_getElem? (i := 38) rfl))) (mvT hZ282 (hw _ (List.mem_of_getElem? (i := 5) rfl))) (mvT hZ282 (hw _ (List.mem_of_getElem? (i := 39) rfl))) (by decide) (backOf (W := 4) (rm8 l Z ar0 hw [] v215 s_RECEIVE s_SEND h361 n0 Z361 Sf364 Sf363) hZ282 (hw _ (List.mem_of_getElem? (i := 39) rfl)) (hw _ (List.mem_of_getElem? (i := 5) rfl)) (by decide) (by decide)) (g := (mkF m 160 #[.val (.int p0), .val (.int p1), .val (.int p2), .val (.int p3), .val (.int v182), .val (.int v188), .val (.int v191), .val (.int v197), .val (.int v200), .val (.int v206), .val (.int v209), .val (.int v215), .val (.ref b218), .unset, .unset, .unset, .unset] [(.int v215), (.ref b361), (.ref b330), (.ref b304), (.ref b304)])) rfl (by rw [hml]; rfl) (argsL := [(.int v215)]) (rest := [(.ref b361), (.ref b330), (.ref b304), (.ref b304)]) (lenOf pd_4 rfl) rfl (by show 2 * 0 + _ ≤ _; exact Nat.le_of_eq rfl) (hb hby at_160) (fun _ _ => ⟨rfl, e361, (by decide : 25 + 0 ≤ _), (by decide : 174 + 0 ≤ _)⟩)
  dsimp only [Pt.U, Pt.locs, Pt.cells, Pt.slots] at X396 l396 y396 z396 st396 hQ396
  subst l396 y396 z396
  obtain ⟨rfl, N396q, e396⟩ := hQ396
  have N396 := Fr.app N361 N396q
  have pre397 : ∀ t, Steps p.tables e below (T396.setTop (mkF m 163 #[.val (.int p0), .val (.int p1), .val (.int p2), .val (.int p3), .val (.int v182), .val (.int v188), .val (.int v191), .val (.int v197), .val (.int v200), .val (.int v206), .val (.int v209), .val (.int v215), .val (.ref b218), .unset, .unset, .unset, .unset] [(.ref (f8 v215 s_RECEIVE s_SEND)), (.ref b361), (.ref b330), (.ref b304), (.ref b304)])) t → Steps p.tables e below (s₁.setTop (entryFrame m #[(.int p0), (.int p1), (.int p2), (.int p3)] maxLocals)) t := fun t k => pre395 t (st396 t k)
  obtain ⟨o398, ho398⟩ : ∃ z : Addr, z = (f8 v215 s_RECEIVE s_SEND) := ⟨_, rfl⟩
  have pre399 : ∀ t, Steps p.tables e below (T396.setTop (mkF m 163 #[.val (.int p0), .val (.int p1), .val (.int p2), .val (.int p3), .val (.int v182), .val (.int v188), .val (.int v191), .val (.int v197), .val (.int v200), .val (.int v206), .val (.int v209), .val (.int v215), .val (.ref b218), .unset, .unset, .unset, .unset] [(.ref o398), (.ref b361), (.ref b330), (.ref b304), (.ref b304)])) t → Steps p.tables e below (s₁.setTop (entryFrame m #[(.int p0), (.int p1), (.int p2), (.int p3)] maxLocals)) t := by rw [ho398]; exact pre397
  have E_o398 : Exa Z h361 o398 "com/example/oversee/oversee/model/Direction" := by rw [ho398]; exact own_dirE _ Ef365 Ef366
  have pre400 : ∀ t, Steps p.tables e below (T396.setTop (mkF m 165 #[.val (.int p0), .val (.int p1), .val (.int p2), .val (.int p3), .val (.int v182), .val (.int v188), .val (.int v191), .val (.int v197), .val (.int v200), .val (.int v206), .val (.int v209), .val (.int v215), .val (.ref b218), .unset, .unset, .unset, .unset] [(.int v206), (.ref o398), (.ref b361), (.ref b330), (.ref b304), (.ref b304)])) t → Steps p.tables e below (s₁.setTop (entryFrame m #[(.int p0), (.int p1), (.int p2), (.int p3)] maxLocals)) t := by
    intro t k
    refine pre399 t ?_
    show Steps p.tables e below (T396.setTop (mkF m 163 #[.val (.int p0), .val (.int p1), .val (.int p2), .val (.int p3), .val (.int v182), .val (.int v188), .val (.int v191), .val (.int v197), .val (.int v200), .val (.int v206), .val (.int v209), .val (.int v215), .val (.ref b218), .unset, .unset, .unset, .unset] [(.ref o398), (.ref b361), (.ref b330), (.ref b304), (.ref b304)])) _
    refine XS.iload X396.here hx rfl (hb hby at_163) rfl ?_
    exact k
  obtain ⟨_, _, ⟨T401, L401, k401, n401⟩, -, X401, ⟨Lc401, hQ401, l401, y401, z401⟩, st401⟩ := Jvm.LawKit.callS X396 hx (y := (⟨"com/example/oversee/oversee/model/ActionEqualsPinLaw", "str", "(I)Ljava/lang/String;"⟩ : MethodName)) ho282 (mvT hZ282 (hw _ (List.mem_of_getElem? (i := 3) rfl))) (mvT hZ282 (hw _ (List.mem_of_getElem? (i := 4) rfl))) (mvT hZ282 (hw _ (List.mem_of_getElem? (i := 5) rfl))) (mvT hZ282 (hw _ (List.mem_of_getElem? (i := 6) rfl))) (by decide) (backOf (W := 5) (rm1 l Z ar0 hw [] v206 gc1 h361 n0 Z361 P5 Sf362) hZ282 (hw _ (List.mem_of_getElem? (i := 6) rfl)) (hw _ (List.mem_of_getElem? (i := 5) rfl)) (by decide) (by decide)) (g := (mkF m 165 #[.val (.int p0), .val (.int p1), .val (.int p2), .val (.int p3), .val (.int v182), .val (.int v188), .val (.int v191), .val (.int v197), .val (.int v200), .val (.int v206), .val (.int v209), .val (.int v215), .val (.ref b218), .unset, .unset, .unset, .unset] [(.int v206), (.ref o398), (.ref b361), (.ref b330), (.ref b304), (.ref b304)])) rfl (by rw [hml]; rfl) (argsL := [(.int v206)]) (rest := [(.ref o398), (.ref b361), (.ref b330), (.ref b304), (.ref b304)]) (lenOf pd_3 rfl) rfl (by show 2 * 0 + _ ≤ _; exact Nat.le_of_eq rfl) (hb hby at_165) (fun _ _ => ⟨rfl, e396, (by decide : 25 + 3 ≤ _), (by decide : 174 + 6 ≤ _)⟩)
  dsimp only [Pt.U, Pt.locs, Pt.cells, Pt.slots] at X401 l401 y401 z401 st401 hQ401
  subst l401 y401 z401
  obtain ⟨h401, e401⟩ : ∃ h, T401.heap = h := ⟨_, rfl⟩
  rw [e401] at hQ401
  obtain ⟨b401, b401b, kb401b, rfl, N401q, K401q, y_b401, Ob401_0, Ob401_1, Ob401_2, y_b401b, Ob401b_0⟩ := hQ401
  have N401 := Fr.app N396 N401q
  have ne_s_SEND_b401 : s_SEND ≠ b401 := Nat.ne_of_lt (Nat.lt_of_lt_of_le (Ef365).lt y_b401)
  have ne_s_RECEIVE_b401 : s_RECEIVE ≠ b401 := Nat.ne_of_lt (Nat.lt_of_lt_of_le (Ef366).lt y_b401)
  have ne_b218_b401 : b218 ≠ b401 := Nat.ne_of_lt (Nat.lt_of_lt_of_le (Ef367).lt y_b401)
  have ne_b226_b401 : b226 ≠ b401 := Nat.ne_of_lt (Nat.lt_of_lt_of_le (Ef368).lt y_b401)
  have ne_b226b_b401 : b226b ≠ b401 := Nat.ne_of_lt (Nat.lt_of_lt_of_le (Vf371).lt y_b401)
  have ne_b239_b401 : b239 ≠ b401 := Nat.ne_of_lt (Nat.lt_of_lt_of_le (Ef372).lt y_b401)
  have ne_b239b_b401 : b239b ≠ b401 := Nat.ne_of_lt (Nat.lt_of_lt_of_le (Vf375).lt y_b401)
  have ne_o258_b401 : o258 ≠ b401 := Nat.ne_of_lt (Nat.lt_of_lt_of_le (Ef376).lt y_b401)
  have ne_b261_b401 : b261 ≠ b401 := Nat.ne_of_lt (Nat.lt_of_lt_of_le (Ef377).lt y_b401)
  have ne_b261b_b401 : b261b ≠ b401 := Nat.ne_of_lt (Nat.lt_of_lt_of_le (Vf380).lt y_b401)
  have ne_b304_b401 : b304 ≠ b401 := Nat.ne_of_lt (Nat.lt_of_lt_of_le (Ef385).lt y_b401)
  have ne_b330_b401 : b330 ≠ b401 := Nat.ne_of_lt (Nat.lt_of_lt_of_le (Ef390).lt y_b401)
  have ne_b330b_b401 : b330b ≠ b401 := Nat.ne_of_lt (Nat.lt_of_lt_of_le (Vf393).lt y_b401)
  have ne_b361_b401 : b361 ≠ b401 := Nat.ne_of_lt (Nat.lt_of_lt_of_le (Ob361_0).lt y_b401)
  have ne_b361b_b401 : b361b ≠ b401 := Nat.ne_of_lt (Nat.lt_of_lt_of_le (Ob361b_0).lt y_b401)
  have ne_o398_b401 : o398 ≠ b401 := Nat.ne_of_lt (Nat.lt_of_lt_of_le (E_o398).lt y_b401)
  have g_b401 : n0 ≤ b401 := Nat.le_trans Z361 y_b401
  have sz_b401 : h0.size ≤ b401 := Nat.le_trans K361.1 y_b401
  have ne_s_SEND_b401b : s_SEND ≠ b401b := Nat.ne_of_lt (Nat.lt_of_lt_of_le (Ef365).lt y_b401b)
  have ne_s_RECEIVE_b401b : s_RECEIVE ≠ b401b := Nat.ne_of_lt (Nat.lt_of_lt_of_le (Ef366).lt y_b401b)
  have ne_b218_b401b : b218 ≠ b401b := Nat.ne_of_lt (Nat.lt_of_lt_of_le (Ef367).lt y_b401b)
  have ne_b226_b401b : b226 ≠ b401b := Nat.ne_of_lt (Nat.lt_of_lt_of_le (Ef368).lt y_b401b)
  have ne_b226b_b401b : b226b ≠ b401b := Nat.ne_of_lt (Nat.lt_of_lt_of_le (Vf371).lt y_b401b)
  have ne_b239_b401b : b239 ≠ b401b := Nat.ne_of_lt (Nat.lt_of_lt_of_le (Ef372).lt y_b401b)
  have ne_b239b_b401b : b239b ≠ b401b := Nat.ne_of_lt (Nat.lt_of_lt_of_le (Vf375).lt y_b401b)
  have ne_o258_b401b : o258 ≠ b401b := Nat.ne_of_lt (Nat.lt_of_lt_of_le (Ef376).lt y_b401b)
  have ne_b261_b401b : b261 ≠ b401b := Nat.ne_of_lt (Nat.lt_of_lt_of_le (Ef377).lt y_b401b)
  have ne_b261b_b401b : b261b ≠ b401b := Nat.ne_of_lt (Nat.lt_of_lt_of_le (Vf380).lt y_b401b)
  have ne_b304_b401b : b304 ≠ b401b := Nat.ne_of_lt (Nat.lt_of_lt_of_le (Ef385).lt y_b401b)
  have ne_b330_b401b : b330 ≠ b401b := Nat.ne_of_lt (Nat.lt_of_lt_of_le (Ef390).lt y_b401b)
  have ne_b330b_b401b : b330b ≠ b401b := Nat.ne_of_lt (Nat.lt_of_lt_of_le (Vf393).lt y_b401b)
  have ne_b361_b401b : b361 ≠ b401b := Nat.ne_of_lt (Nat.lt_of_lt_of_le (Ob361_0).lt y_b401b)
  have ne_b361b_b401b : b361b ≠ b401b := Nat.ne_of_lt (Nat.lt_of_lt_of_le (Ob361b_0).lt y_b401b)
  have ne_o398_b401b : o398 ≠ b401b := Nat.ne_of_lt (Nat.lt_of_lt_of_le (E_o398).lt y_b401b)
  have g_b401b : n0 ≤ b401b := Nat.le_trans Z361 y_b401b
  have sz_b401b : h0.size ≤ b401b := Nat.le_trans K361.1 y_b401b
  have Z401 : n0 ≤ h401.size := Nat.le_trans Z361 K401q.1
  have hk401 := Nat.le_trans hk361 K401q.1
  have K401 : Keep h0 h401 [] := K361.trans K401q (fun x hx => absurd hx List.not_mem_nil)
  have Sf402 : Sta Z h401 "java/lang/String" "COMPACT_STRINGS" "Z" (.int gc1) := own_sta_keep0 Sf362 K401q
  have Sf403 : Sta Z h401 "com/example/oversee/oversee/model/Direction" "SEND" "Lcom/example/oversee/oversee/model/Direction;" (.ref s_SEND) := own_sta_keep0 Sf363 K401q
  have Sf404 : Sta Z h401 "com/example/oversee/oversee/model/Direction" "RECEIVE" "Lcom/example/oversee/oversee/model/Direction;" (.ref s_RECEIVE) := own_sta_keep0 Sf364 K401q
  have Ef405 : Exa Z h401 s_SEND "com/example/oversee/oversee/model/Direction" := (Ef365).keep K401q
  have Ef406 : Exa Z h401 s_RECEIVE "com/example/oversee/oversee/model/Direction" := (Ef366).keep K401q
  have Ef407 : Exa Z h401 b218 "com/example/oversee/oversee/model/Action" := (Ef367).keep K401q
  have Ef408 : Exa Z h401 b226 "java/lang/String" := (Ef368).keep K401q
  have Ff409 : Fld Z h401 b226 "java/lang/String" "coder" "B" (.int (0 : Int32)) := (Ff369).keep K401q List.not_mem_nil
  have Ff410 : Fld Z h401 b226 "java/lang/String" "value" "[B" (.ref b226b) := (Ff370).keep K401q List.not_mem_nil
  have Vf411 : Arv Z h401 b226b kb226b .byte (1 : Int32) ((([(own_ch v182)] : List Int32).map (fun c => c.toInt8.toInt32)).map Value.int) (.int (0 : Int32)) := (Vf371).keep K401q List.not_mem_nil
  have Ef412 : Exa Z h401 b239 "java/lang/String" := (Ef372).keep K401q
  have Ff413 : Fld Z h401 b239 "java/lang/String" "coder" "B" (.int (0 : Int32)) := (Ff373).keep K401q List.not_mem_nil
  have Ff414 : Fld Z h401 b239 "java/lang/String" "value" "[B" (.ref b239b) := (Ff374).keep K401q List.not_mem_nil
  have Vf415 : Arv Z h401 b239b kb239b .byte (1 : Int32) ((([(own_ch v191)] : List Int32).map (fun c => c.toInt8.toInt32)).map Value.int) (.int (0 : Int32)) := (Vf375).keep K401q List.not_mem_nil
  have Ef416 : Exa Z h401 o258 "com/example/oversee/oversee/model/Direction" := (Ef376).keep K401q
  have Ef417 : Exa Z h401 b261 "java/lang/String" := (Ef377).keep K401q
  have Ff418 : Fld Z h401 b261 "java/lang/String" "coder" "B" (.int (0 : Int32)) := (Ff378).keep K401q List.not_mem_nil
  have Ff419 : Fld Z h401 b261 "java/lang/String" "value" "[B" (.ref b261b) := (Ff379).keep K401q List.not_mem_nil
  have Vf420 : Arv Z h401 b261b kb261b .byte (1 : Int32) ((([(own_ch v200)] : List Int32).map (fun c => c.toInt8.toInt32)).map Value.int) (.int (0 : Int32)) := (Vf380).keep K401q List.not_mem_nil
  have Ff421 : Fld Z h401 b218 "com/example/oversee/oversee/model/Action" "sender" "Ljava/lang/String;" (.ref b226) := (Ff381).keep K401q List.not_mem_nil
  have Ff422 : Fld Z h401 b218 "com/example/oversee/oversee/model/Action" "receiver" "Ljava/lang/String;" (.ref b239) := (Ff382).keep K401q List.not_mem_nil
  have Ff423 : Fld Z h401 b218 "com/example/oversee/oversee/model/Action" "direction" "Lcom/example/oversee/oversee/model/Direction;" (.ref o258) := (Ff383).keep K401q List.not_mem_nil
  have Ff424 : Fld Z h401 b218 "com/example/oversee/oversee/model/Action" "message" "Ljava/lang/String;" (.ref b261) := (Ff384).keep K401q List.not_mem_nil
  have Ef425 : Exa Z h401 b304 "com/example/oversee/oversee/model/Action" := (Ef385).keep K401q
  have Ff426 : Fld Z h401 b304 "com/example/oversee/oversee/model/Action" "sender" "Ljava/lang/String;" .null := (Ff386).keep K401q List.not_mem_nil
  have Ff427 : Fld Z h401 b304 "com/example/oversee/oversee/model/Action" "receiver" "Ljava/lang/String;" .null := (Ff387).keep K401q List.not_mem_nil
  have Ff428 : Fld Z h401 b304 "com/example/oversee/oversee/model/Action" "direction" "Lcom/example/oversee/oversee/model/Direction;" .null := (Ff388).keep K401q List.not_mem_nil
  have Ff429 : Fld Z h401 b304 "com/example/oversee/oversee/model/Action" "message" "Ljava/lang/String;" .null := (Ff389).keep K401q List.not_mem_nil
  have Ef430 : Exa Z h401 b330 "java/lang/String" := (Ef390).keep K401q
  have Ff431 : Fld Z h401 b330 "java/lang/String" "coder" "B" (.int (0 : Int32)) := (Ff391).keep K401q List.not_mem_nil
  have Ff432 : Fld Z h401 b330 "java/lang/String" "value" "[B" (.ref b330b) := (Ff392).keep K401q List.not_mem_nil
  have Vf433 : Arv Z h401 b330b kb330b .byte (1 : Int32) ((([(own_ch v188)] : List Int32).map (fun c => c.toInt8.toInt32)).map Value.int) (.int (0 : Int32)) := (Vf393).keep K401q List.not_mem_nil
  have Ef434 : Exa Z h401 b361 "java/lang/String" := (Ob361_0).keep K401q
  have Ff435 : Fld Z h401 b361 "java/lang/String" "coder" "B" (.int (0 : Int32)) := (Ob361_1).keep K401q List.not_mem_nil
  have Ff436 : Fld Z h401 b361 "java/lang/String" "value" "[B" (.ref b361b) := (Ob361_2).keep K401q List.not_mem_nil
  have Vf437 : Arv Z h401 b361b kb361b .byte (1 : Int32) ((([(own_ch v197)] : List Int32).map (fun c => c.toInt8.toInt32)).map Value.int) (.int (0 : Int32)) := (Ob361b_0).keep K401q List.not_mem_nil
  have Ef438 : Exa Z h401 o398 "com/example/oversee/oversee/model/Direction" := (E_o398).keep K401q
  have pre439 : ∀ t, Steps p.tables e below (T401.setTop (mkF m 168 #[.val (.int p0), .val (.int p1), .val (.int p2), .val (.int p3), .val (.int v182), .val (.int v188), .val (.int v191), .val (.int v197), .val (.int v200), .val (.int v206), .val (.int v209), .val (.int v215), .val (.ref b218), .unset, .unset, .unset, .unset] [(.ref b401), (.ref o398), (.ref b361), (.ref b330), (.ref b304), (.ref b304)])) t → Steps p.tables e below (s₁.setTop (entryFrame m #[(.int p0), (.int p1), (.int p2), (.int p3)] maxLocals)) t := fun t k => pre400 t (st401 t k)
  obtain ⟨_, _, ⟨T440, L440, k440, n440⟩, -, X440r, hS440r, hg440r, ⟨Lc440, hQ440, l440, y440, z440⟩, st440⟩ := X401.specialBackS hx (y := (⟨"com/example/oversee/oversee/model/Action", "<init>", "(Ljava/lang/String;Ljava/lang/String;Lcom/example/oversee/oversee/model/Direction;Ljava/lang/String;)V"⟩ : MethodName)) rfl ho282 (mvT hZ282 (hw _ (List.mem_of_getElem? (i := 43) rfl))) (mvT hZ282 (hw _ (List.mem_of_getElem? (i := 44) rfl))) (mvT hZ282 (hw _ (List.mem_of_getElem? (i := 45) rfl))) (by decide) (backOfS (W := 1) (rm9 l Z ar0 hw [] b304 b330 b361 o398 b401 .null .null .null .null h401 n0 Z401 Ef430 Ef425 Ef434 Ef438 Ob401_0 Ff426 Ff427 Ff428 Ff429 g_b304) hZ282 (hw _ (List.mem_of_getElem? (i := 45) rfl)) (hw _ (List.mem_of_getElem? (i := 2) rfl)) (by decide) (by decide)) (g := (mkF m 168 #[.val (.int p0), .val (.int p1), .val (.int p2), .val (.int p3), .val (.int v182), .val (.int v188), .val (.int v191), .val (.int v197), .val (.int v200), .val (.int v206), .val (.int v209), .val (.int v215), .val (.ref b218), .unset, .unset, .unset, .unset] [(.ref b401), (.ref o398), (.ref b361), (.ref b330), (.ref b304), (.ref b304)])) rfl (by rw [hml]; rfl) (Steps.refl _) (a := b304) (argsL := [(.ref b330), (.ref b361), (.ref o398), (.ref b401)]) (rest := [(.ref b304)]) (lenOf pd_5 rfl) rfl (by show 2 * 0 + _ ≤ _; exact Nat.le_of_eq rfl) (hb hby at_168) (fun _ _ => ⟨rfl, e401, (by decide : 28 + 8 ≤ _), (by decide : 180 + 136 ≤ _)⟩)
  dsimp only [Pt.U, Pt.locs, Pt.cells, Pt.slots] at X440r hS440r hg440r l440 y440 z440 st440 hQ440
  subst l440 y440 z440
  obtain ⟨X440, hS440, hZ440, ho440⟩ := rebS (s := s) (vm0 := T282.vm) (n1 := T401.heap.size) hS282 (by rw [e401]; exact hk401) X440r hS440r hg440r hZ282 ho282
  obtain ⟨h440, e440⟩ : ∃ h, T440.heap = h := ⟨_, rfl⟩
  rw [e440] at hQ440
  obtain ⟨rfl, N440q, K440q, Q440_0, Q440_1, Q440_2, Q440_3, Q440_4⟩ := hQ440
  have N440 := Fr.app N401 N440q
  have Z440 : n0 ≤ h440.size := Nat.le_trans Z401 K440q.1
  have K440 : Keep h0 h440 [] := K401.trans K440q (fun x hx => by cases List.mem_singleton.mp hx; exact Or.inr sz_b304)
  have Sf441 : Sta Z h440 "java/lang/String" "COMPACT_STRINGS" "Z" (.int gc1) := own_sta_keep Sf402 K440q (own_ns1 (own_ns_exa Ef425))
  have Sf442 : Sta Z h440 "com/example/oversee/oversee/model/Direction" "SEND" "Lcom/example/oversee/oversee/model/Direction;" (.ref s_SEND) := own_sta_keep Sf403 K440q (own_ns1 (own_ns_exa Ef425))
  have Sf443 : Sta Z h440 "com/example/oversee/oversee/model/Direction" "RECEIVE" "Lcom/example/oversee/oversee/model/Direction;" (.ref s_RECEIVE) := own_sta_keep Sf404 K440q (own_ns1 (own_ns_exa Ef425))
  have Ef444 : Exa Z h440 s_SEND "com/example/oversee/oversee/model/Direction" := (Ef405).keep K440q
  have Ef445 : Exa Z h440 s_RECEIVE "com/example/oversee/oversee/model/Direction" := (Ef406).keep K440q
  have Ef446 : Exa Z h440 b218 "com/example/oversee/oversee/model/Action" := (Ef407).keep K440q
  have Ef447 : Exa Z h440 b226 "java/lang/String" := (Ef408).keep K440q
  have Ff448 : Fld Z h440 b226 "java/lang/String" "coder" "B" (.int (0 : Int32)) := (Ff409).keep K440q (fun q => absurd (List.mem_singleton.mp q) ne_b226_b304)
  have Ff449 : Fld Z h440 b226 "java/lang/String" "value" "[B" (.ref b226b) := (Ff410).keep K440q (fun q => absurd (List.mem_singleton.mp q) ne_b226_b304)
  have Vf450 : Arv Z h440 b226b kb226b .byte (1 : Int32) ((([(own_ch v182)] : List Int32).map (fun c => c.toInt8.toInt32)).map Value.int) (.int (0 : Int32)) := (Vf411).keep K440q (fun q => absurd (List.mem_singleton.mp q) ne_b226b_b304)
  have Ef451 : Exa Z h440 b239 "java/lang/String" := (Ef412).keep K440q
  have Ff452 : Fld Z h440 b239 "java/lang/String" "coder" "B" (.int (0 : Int32)) := (Ff413).keep K440q (fun q => absurd (List.mem_singleton.mp q) ne_b239_b304)
  have Ff453 : Fld Z h440 b239 "java/lang/String" "value" "[B" (.ref b239b) := (Ff414).keep K440q (fun q => absurd (List.mem_singleton.mp q) ne_b239_b304)
  have Vf454 : Arv Z h440 b239b kb239b .byte (1 : Int32) ((([(own_ch v191)] : List Int32).map (fun c => c.toInt8.toInt32)).map Value.int) (.int (0 : Int32)) := (Vf415).keep K440q (fun q => absurd (List.mem_singleton.mp q) ne_b239b_b304)
  have Ef455 : Exa Z h440 o258 "com/example/oversee/oversee/model/Direction" := (Ef416).keep K440q
  have Ef456 : Exa Z h440 b261 "java/lang/String" := (Ef417).keep K440q
  have Ff457 : Fld Z h440 b261 "java/lang/String" "coder" "B" (.int (0 : Int32)) := (Ff418).keep K440q (fun q => absurd (List.mem_singleton.mp q) ne_b261_b304)
  have Ff458 : Fld Z h440 b261 "java/lang/String" "value" "[B" (.ref b261b) := (Ff419).keep K440q (fun q => absurd (List.mem_singleton.mp q) ne_b261_b304)
  have Vf459 : Arv Z h440 b261b kb261b .byte (1 : Int32) ((([(own_ch v200)] : List Int32).map (fun c => c.toInt8.toInt32)).map Value.int) (.int (0 : Int32)) := (Vf420).keep K440q (fun q => absurd (List.mem_singleton.mp q) ne_b261b_b304)
  have Ff460 : Fld Z h440 b218 "com/example/oversee/oversee/model/Action" "sender" "Ljava/lang/String;" (.ref b226) := (Ff421).keep K440q (fun q => absurd (List.mem_singleton.mp q) ne_b218_b304)
  have Ff461 : Fld Z h440 b218 "com/example/oversee/oversee/model/Action" "receiver" "Ljava/lang/String;" (.ref b239) := (Ff422).keep K440q (fun q => absurd (List.mem_singleton.mp q) ne_b218_b304)
  have Ff462 : Fld Z h440 b218 "com/example/oversee/oversee/model/Action" "direction" "Lcom/example/oversee/oversee/model/Direction;" (.ref o258) := (Ff423).keep K440q (fun q => absurd (List.mem_singleton.mp q) ne_b218_b304)
  have Ff463 : Fld Z h440 b218 "com/example/oversee/oversee/model/Action" "message" "Ljava/lang/String;" (.ref b261) := (Ff424).keep K440q (fun q => absurd (List.mem_singleton.mp q) ne_b218_b304)
  have Ef464 : Exa Z h440 b304 "com/example/oversee/oversee/model/Action" := (Ef425).keep K440q
  have Ef465 : Exa Z h440 b330 "java/lang/String" := (Ef430).keep K440q
  have Ff466 : Fld Z h440 b330 "java/lang/String" "coder" "B" (.int (0 : Int32)) := (Ff431).keep K440q (fun q => absurd (List.mem_singleton.mp q) ne_b304_b330.symm)
  have Ff467 : Fld Z h440 b330 "java/lang/String" "value" "[B" (.ref b330b) := (Ff432).keep K440q (fun q => absurd (List.mem_singleton.mp q) ne_b304_b330.symm)
  have Vf468 : Arv Z h440 b330b kb330b .byte (1 : Int32) ((([(own_ch v188)] : List Int32).map (fun c => c.toInt8.toInt32)).map Value.int) (.int (0 : Int32)) := (Vf433).keep K440q (fun q => absurd (List.mem_singleton.mp q) ne_b304_b330b.symm)
  have Ef469 : Exa Z h440 b361 "java/lang/String" := (Ef434).keep K440q
  have Ff470 : Fld Z h440 b361 "java/lang/String" "coder" "B" (.int (0 : Int32)) := (Ff435).keep K440q (fun q => absurd (List.mem_singleton.mp q) ne_b304_b361.symm)
  have Ff471 : Fld Z h440 b361 "java/lang/String" "value" "[B" (.ref b361b) := (Ff436).keep K440q (fun q => absurd (List.mem_singleton.mp q) ne_b304_b361.symm)
  have Vf472 : Arv Z h440 b361b kb361b .byte (1 : Int32) ((([(own_ch v197)] : List Int32).map (fun c => c.toInt8.toInt32)).map Value.int) (.int (0 : Int32)) := (Vf437).keep K440q (fun q => absurd (List.mem_singleton.mp q) ne_b304_b361b.symm)
  have Ef473 : Exa Z h440 o398 "com/example/oversee/oversee/model/Direction" := (Ef438).keep K440q
  have Ef474 : Exa Z h440 b401 "java/lang/String" := (Ob401_0).keep K440q
  have Ff475 : Fld Z h440 b401 "java/lang/String" "coder" "B" (.int (0 : Int32)) := (Ob401_1).keep K440q (fun q => absurd (List.mem_singleton.mp q) ne_b304_b401.symm)
  have Ff476 : Fld Z h440 b401 "java/lang/String" "value" "[B" (.ref b401b) := (Ob401_2).keep K440q (fun q => absurd (List.mem_singleton.mp q) ne_b304_b401.symm)
  have Vf477 : Arv Z h440 b401b kb401b .byte (1 : Int32) ((([(own_ch v206)] : List Int32).map (fun c => c.toInt8.toInt32)).map Value.int) (.int (0 : Int32)) := (Ob401b_0).keep K440q (fun q => absurd (List.mem_singleton.mp q) ne_b304_b401b.symm)
  have hk440 : T440.heap.size ≤ h440.size := by rw [e440]; exact Nat.le_refl _
  have pre478 : ∀ t, Steps p.tables e below (T440.setTop (mkF m 171 #[.val (.int p0), .val (.int p1), .val (.int p2), .val (.int p3), .val (.int v182), .val (.int v188), .val (.int v191), .val (.int v197), .val (.int v200), .val (.int v206), .val (.int v209), .val (.int v215), .val (.ref b218), .unset, .unset, .unset, .unset] [(.ref b304)])) t → Steps p.tables e below (s₁.setTop (entryFrame m #[(.int p0), (.int p1), (.int p2), (.int p3)] maxLocals)) t := fun t k => pre439 t (st440.trans k)
  have pre479 : ∀ t, Steps p.tables e below (T440.setTop (mkF m 175 #[.val (.int p0), .val (.int p1), .val (.int p2), .val (.int p3), .val (.int v182), .val (.int v188), .val (.int v191), .val (.int v197), .val (.int v200), .val (.int v206), .val (.int v209), .val (.int v215), .val (.ref b218), .val (.ref b304), .unset, .unset, .unset] [(.int v182)])) t → Steps p.tables e below (s₁.setTop (entryFrame m #[(.int p0), (.int p1), (.int p2), (.int p3)] maxLocals)) t := by
    intro t k
    refine pre478 t ?_
    show Steps p.tables e below (T440.setTop (mkF m 171 #[.val (.int p0), .val (.int p1), .val (.int p2), .val (.int p3), .val (.int v182), .val (.int v188), .val (.int v191), .val (.int v197), .val (.int v200), .val (.int v206), .val (.int v209), .val (.int v215), .val (.ref b218), .unset, .unset, .unset, .unset] [(.ref b304)])) _
    refine XS.astore X440.here hx rfl (hb hby at_171) rfl rfl (l' := #[.val (.int p0), .val (.int p1), .val (.int p2), .val (.int p3), .val (.int v182), .val (.int v188), .val (.int v191), .val (.int v197), .val (.int v200), .val (.int v206), .val (.int v209), .val (.int v215), .val (.ref b218), .val (.ref b304), .unset, .unset, .unset]) rfl ?_
    refine XS.iload X440.here hx rfl (hb hby at_173) rfl ?_
    exact k
  obtain ⟨_, _, ⟨T480, L480, k480, n480⟩, -, X480, ⟨Lc480, hQ480, l480, y480, z480⟩, st480⟩ := Jvm.LawKit.callS X440 hx (y := (⟨"com/example/oversee/oversee/model/ActionEqualsPinLaw", "str", "(I)Ljava/lang/String;"⟩ : MethodName)) ho440 (mvT hZ440 (hw _ (List.mem_of_getElem? (i := 3) rfl))) (mvT hZ440 (hw _ (List.mem_of_getElem? (i := 4) rfl))) (mvT hZ440 (hw _ (List.mem_of_getElem? (i := 5) rfl))) (mvT hZ440 (hw _ (List.mem_of_getElem? (i := 6) rfl))) (by decide) (backOf (W := 0) (rm1 l Z ar0 hw [] v182 gc1 h440 n0 Z440 P5 Sf441) hZ440 (hw _ (List.mem_of_getElem? (i := 6) rfl)) (hw _ (List.mem_of_getElem? (i := 5) rfl)) (by decide) (by decide)) (g := (mkF m 175 #[.val (.int p0), .val (.int p1), .val (.int p2), .val (.int p3), .val (.int v182), .val (.int v188), .val (.int v191), .val (.int v197), .val (.int v200), .val (.int v206), .val (.int v209), .val (.int v215), .val (.ref b218), .val (.ref b304), .unset, .unset, .unset] [(.int v182)])) rfl (by rw [hml]; rfl) (argsL := [(.int v182)]) (rest := []) (lenOf pd_3 rfl) rfl (by show 2 * 0 + _ ≤ _; exact Nat.le_of_eq rfl) (hb hby at_175) (fun _ _ => ⟨rfl, e440, (by decide : 36 + 3 ≤ _), (by decide : 316 + 6 ≤ _)⟩)
  dsimp only [Pt.U, Pt.locs, Pt.cells, Pt.slots] at X480 l480 y480 z480 st480 hQ480
  subst l480 y480 z480
  obtain ⟨h480, e480⟩ : ∃ h, T480.heap = h := ⟨_, rfl⟩
  rw [e480] at hQ480
  obtain ⟨b480, b480b, kb480b, rfl, N480q, K480q, y_b480, Ob480_0, Ob480_1, Ob480_2, y_b480b, Ob480b_0⟩ := hQ480
  have N480 := Fr.app N440 N480q
  have ne_s_SEND_b480 : s_SEND ≠ b480 := Nat.ne_of_lt (Nat.lt_of_lt_of_le (Ef444).lt y_b480)
  have ne_s_RECEIVE_b480 : s_RECEIVE ≠ b480 := Nat.ne_of_lt (Nat.lt_of_lt_of_le (Ef445).lt y_b480)
  have ne_b218_b480 : b218 ≠ b480 := Nat.ne_of_lt (Nat.lt_of_lt_of_le (Ef446).lt y_b480)
  have ne_b226_b480 : b226 ≠ b480 := Nat.ne_of_lt (Nat.lt_of_lt_of_le (Ef447).lt y_b480)
  have ne_b226b_b480 : b226b ≠ b480 := Nat.ne_of_lt (Nat.lt_of_lt_of_le (Vf450).lt y_b480)
  have ne_b239_b480 : b239 ≠ b480 := Nat.ne_of_lt (Nat.lt_of_lt_of_le (Ef451).lt y_b480)
  have ne_b239b_b480 : b239b ≠ b480 := Nat.ne_of_lt (Nat.lt_of_lt_of_le (Vf454).lt y_b480)
  have ne_o258_b480 : o258 ≠ b480 := Nat.ne_of_lt (Nat.lt_of_lt_of_le (Ef455).lt y_b480)
  have ne_b261_b480 : b261 ≠ b480 := Nat.ne_of_lt (Nat.lt_of_lt_of_le (Ef456).lt y_b480)
  have ne_b261b_b480 : b261b ≠ b480 := Nat.ne_of_lt (Nat.lt_of_lt_of_le (Vf459).lt y_b480)
  have ne_b304_b480 : b304 ≠ b480 := Nat.ne_of_lt (Nat.lt_of_lt_of_le (Q440_0).lt y_b480)
  have ne_b330_b480 : b330 ≠ b480 := Nat.ne_of_lt (Nat.lt_of_lt_of_le (Ef465).lt y_b480)
  have ne_b330b_b480 : b330b ≠ b480 := Nat.ne_of_lt (Nat.lt_of_lt_of_le (Vf468).lt y_b480)
  have ne_b361_b480 : b361 ≠ b480 := Nat.ne_of_lt (Nat.lt_of_lt_of_le (Ef469).lt y_b480)
  have ne_b361b_b480 : b361b ≠ b480 := Nat.ne_of_lt (Nat.lt_of_lt_of_le (Vf472).lt y_b480)
  have ne_o398_b480 : o398 ≠ b480 := Nat.ne_of_lt (Nat.lt_of_lt_of_le (Ef473).lt y_b480)
  have ne_b401_b480 : b401 ≠ b480 := Nat.ne_of_lt (Nat.lt_of_lt_of_le (Ef474).lt y_b480)
  have ne_b401b_b480 : b401b ≠ b480 := Nat.ne_of_lt (Nat.lt_of_lt_of_le (Vf477).lt y_b480)
  have g_b480 : n0 ≤ b480 := Nat.le_trans Z440 y_b480
  have sz_b480 : h0.size ≤ b480 := Nat.le_trans K440.1 y_b480
  have ne_s_SEND_b480b : s_SEND ≠ b480b := Nat.ne_of_lt (Nat.lt_of_lt_of_le (Ef444).lt y_b480b)
  have ne_s_RECEIVE_b480b : s_RECEIVE ≠ b480b := Nat.ne_of_lt (Nat.lt_of_lt_of_le (Ef445).lt y_b480b)
  have ne_b218_b480b : b218 ≠ b480b := Nat.ne_of_lt (Nat.lt_of_lt_of_le (Ef446).lt y_b480b)
  have ne_b226_b480b : b226 ≠ b480b := Nat.ne_of_lt (Nat.lt_of_lt_of_le (Ef447).lt y_b480b)
  have ne_b226b_b480b : b226b ≠ b480b := Nat.ne_of_lt (Nat.lt_of_lt_of_le (Vf450).lt y_b480b)
  have ne_b239_b480b : b239 ≠ b480b := Nat.ne_of_lt (Nat.lt_of_lt_of_le (Ef451).lt y_b480b)
  have ne_b239b_b480b : b239b ≠ b480b := Nat.ne_of_lt (Nat.lt_of_lt_of_le (Vf454).lt y_b480b)
  have ne_o258_b480b : o258 ≠ b480b := Nat.ne_of_lt (Nat.lt_of_lt_of_le (Ef455).lt y_b480b)
  have ne_b261_b480b : b261 ≠ b480b := Nat.ne_of_lt (Nat.lt_of_lt_of_le (Ef456).lt y_b480b)
  have ne_b261b_b480b : b261b ≠ b480b := Nat.ne_of_lt (Nat.lt_of_lt_of_le (Vf459).lt y_b480b)
  have ne_b304_b480b : b304 ≠ b480b := Nat.ne_of_lt (Nat.lt_of_lt_of_le (Q440_0).lt y_b480b)
  have ne_b330_b480b : b330 ≠ b480b := Nat.ne_of_lt (Nat.lt_of_lt_of_le (Ef465).lt y_b480b)
  have ne_b330b_b480b : b330b ≠ b480b := Nat.ne_of_lt (Nat.lt_of_lt_of_le (Vf468).lt y_b480b)
  have ne_b361_b480b : b361 ≠ b480b := Nat.ne_of_lt (Nat.lt_of_lt_of_le (Ef469).lt y_b480b)
  have ne_b361b_b480b : b361b ≠ b480b := Nat.ne_of_lt (Nat.lt_of_lt_of_le (Vf472).lt y_b480b)
  have ne_o398_b480b : o398 ≠ b480b := Nat.ne_of_lt (Nat.lt_of_lt_of_le (Ef473).lt y_b480b)
  have ne_b401_b480b : b401 ≠ b480b := Nat.ne_of_lt (Nat.lt_of_lt_of_le (Ef474).lt y_b480b)
  have ne_b401b_b480b : b401b ≠ b480b := Nat.ne_of_lt (Nat.lt_of_lt_of_le (Vf477).lt y_b480b)
  have g_b480b : n0 ≤ b480b := Nat.le_trans Z440 y_b480b
  have sz_b480b : h0.size ≤ b480b := Nat.le_trans K440.1 y_b480b
  have Z480 : n0 ≤ h480.size := Nat.le_trans Z440 K480q.1
  have hk480 := Nat.le_trans hk440 K480q.1
  have K480 : Keep h0 h480 [] := K440.trans K480q (fun x hx => absurd hx List.not_mem_nil)
  have Sf481 : Sta Z h480 "java/lang/String" "COMPACT_STRINGS" "Z" (.int gc1) := own_sta_keep0 Sf441 K480q
  have Sf482 : Sta Z h480 "com/example/oversee/oversee/model/Direction" "SEND" "Lcom/example/oversee/oversee/model/Direction;" (.ref s_SEND) := own_sta_keep0 Sf442 K480q
  have Sf483 : Sta Z h480 "com/example/oversee/oversee/model/Direction" "RECEIVE" "Lcom/example/oversee/oversee/model/Direction;" (.ref s_RECEIVE) := own_sta_keep0 Sf443 K480q
  have Ef484 : Exa Z h480 s_SEND "com/example/oversee/oversee/model/Direction" := (Ef444).keep K480q
  have Ef485 : Exa Z h480 s_RECEIVE "com/example/oversee/oversee/model/Direction" := (Ef445).keep K480q
  have Ef486 : Exa Z h480 b218 "com/example/oversee/oversee/model/Action" := (Ef446).keep K480q
  have Ef487 : Exa Z h480 b226 "java/lang/String" := (Ef447).keep K480q
  have Ff488 : Fld Z h480 b226 "java/lang/String" "coder" "B" (.int (0 : Int32)) := (Ff448).keep K480q List.not_mem_nil
  have Ff489 : Fld Z h480 b226 "java/lang/String" "value" "[B" (.ref b226b) := (Ff449).keep K480q List.not_mem_nil
  have Vf490 : Arv Z h480 b226b kb226b .byte (1 : Int32) ((([(own_ch v182)] : List Int32).map (fun c => c.toInt8.toInt32)).map Value.int) (.int (0 : Int32)) := (Vf450).keep K480q List.not_mem_nil
  have Ef491 : Exa Z h480 b239 "java/lang/String" := (Ef451).keep K480q
  have Ff492 : Fld Z h480 b239 "java/lang/String" "coder" "B" (.int (0 : Int32)) := (Ff452).keep K480q List.not_mem_nil
  have Ff493 : Fld Z h480 b239 "java/lang/String" "value" "[B" (.ref b239b) := (Ff453).keep K480q List.not_mem_nil
  have Vf494 : Arv Z h480 b239b kb239b .byte (1 : Int32) ((([(own_ch v191)] : List Int32).map (fun c => c.toInt8.toInt32)).map Value.int) (.int (0 : Int32)) := (Vf454).keep K480q List.not_mem_nil
  have Ef495 : Exa Z h480 o258 "com/example/oversee/oversee/model/Direction" := (Ef455).keep K480q
  have Ef496 : Exa Z h480 b261 "java/lang/String" := (Ef456).keep K480q
  have Ff497 : Fld Z h480 b261 "java/lang/String" "coder" "B" (.int (0 : Int32)) := (Ff457).keep K480q List.not_mem_nil
  have Ff498 : Fld Z h480 b261 "java/lang/String" "value" "[B" (.ref b261b) := (Ff458).keep K480q List.not_mem_nil
  have Vf499 : Arv Z h480 b261b kb261b .byte (1 : Int32) ((([(own_ch v200)] : List Int32).map (fun c => c.toInt8.toInt32)).map Value.int) (.int (0 : Int32)) := (Vf459).keep K480q List.not_mem_nil
  have Ff500 : Fld Z h480 b218 "com/example/oversee/oversee/model/Action" "sender" "Ljava/lang/String;" (.ref b226) := (Ff460).keep K480q List.not_mem_nil
  have Ff501 : Fld Z h480 b218 "com/example/oversee/oversee/model/Action" "receiver" "Ljava/lang/String;" (.ref b239) := (Ff461).keep K480q List.not_mem_nil
  have Ff502 : Fld Z h480 b218 "com/example/oversee/oversee/model/Action" "direction" "Lcom/example/oversee/oversee/model/Direction;" (.ref o258) := (Ff462).keep K480q List.not_mem_nil
  have Ff503 : Fld Z h480 b218 "com/example/oversee/oversee/model/Action" "message" "Ljava/lang/String;" (.ref b261) := (Ff463).keep K480q List.not_mem_nil
  have Ef504 : Exa Z h480 b304 "com/example/oversee/oversee/model/Action" := (Q440_0).keep K480q
  have Ef505 : Exa Z h480 b330 "java/lang/String" := (Ef465).keep K480q
  have Ff506 : Fld Z h480 b330 "java/lang/String" "coder" "B" (.int (0 : Int32)) := (Ff466).keep K480q List.not_mem_nil
  have Ff507 : Fld Z h480 b330 "java/lang/String" "value" "[B" (.ref b330b) := (Ff467).keep K480q List.not_mem_nil
  have Vf508 : Arv Z h480 b330b kb330b .byte (1 : Int32) ((([(own_ch v188)] : List Int32).map (fun c => c.toInt8.toInt32)).map Value.int) (.int (0 : Int32)) := (Vf468).keep K480q List.not_mem_nil
  have Ef509 : Exa Z h480 b361 "java/lang/String" := (Ef469).keep K480q
  have Ff510 : Fld Z h480 b361 "java/lang/String" "coder" "B" (.int (0 : Int32)) := (Ff470).keep K480q List.not_mem_nil
  have Ff511 : Fld Z h480 b361 "java/lang/String" "value" "[B" (.ref b361b) := (Ff471).keep K480q List.not_mem_nil
  have Vf512 : Arv Z h480 b361b kb361b .byte (1 : Int32) ((([(own_ch v197)] : List Int32).map (fun c => c.toInt8.toInt32)).map Value.int) (.int (0 : Int32)) := (Vf472).keep K480q List.not_mem_nil
  have Ef513 : Exa Z h480 o398 "com/example/oversee/oversee/model/Direction" := (Ef473).keep K480q
  have Ef514 : Exa Z h480 b401 "java/lang/String" := (Ef474).keep K480q
  have Ff515 : Fld Z h480 b401 "java/lang/String" "coder" "B" (.int (0 : Int32)) := (Ff475).keep K480q List.not_mem_nil
  have Ff516 : Fld Z h480 b401 "java/lang/String" "value" "[B" (.ref b401b) := (Ff476).keep K480q List.not_mem_nil
  have Vf517 : Arv Z h480 b401b kb401b .byte (1 : Int32) ((([(own_ch v206)] : List Int32).map (fun c => c.toInt8.toInt32)).map Value.int) (.int (0 : Int32)) := (Vf477).keep K480q List.not_mem_nil
  have Ff518 : Fld Z h480 b304 "com/example/oversee/oversee/model/Action" "sender" "Ljava/lang/String;" (.ref b330) := (Q440_1).keep K480q List.not_mem_nil
  have Ff519 : Fld Z h480 b304 "com/example/oversee/oversee/model/Action" "receiver" "Ljava/lang/String;" (.ref b361) := (Q440_2).keep K480q List.not_mem_nil
  have Ff520 : Fld Z h480 b304 "com/example/oversee/oversee/model/Action" "direction" "Lcom/example/oversee/oversee/model/Direction;" (.ref o398) := (Q440_3).keep K480q List.not_mem_nil
  have Ff521 : Fld Z h480 b304 "com/example/oversee/oversee/model/Action" "message" "Ljava/lang/String;" (.ref b401) := (Q440_4).keep K480q List.not_mem_nil
  have pre522 : ∀ t, Steps p.tables e below (T480.setTop (mkF m 178 #[.val (.int p0), .val (.int p1), .val (.int p2), .val (.int p3), .val (.int v182), .val (.int v188), .val (.int v191), .val (.int v197), .val (.int v200), .val (.int v206), .val (.int v209), .val (.int v215), .val (.ref b218), .val (.ref b304), .unset, .unset, .unset] [(.ref b480)])) t → Steps p.tables e below (s₁.setTop (entryFrame m #[(.int p0), (.int p1), (.int p2), (.int p3)] maxLocals)) t := fun t k => pre479 t (st480 t k)
  have pre523 : ∀ t, Steps p.tables e below (T480.setTop (mkF m 186 #[.val (.int p0), .val (.int p1), .val (.int p2), .val (.int p3), .val (.int v182), .val (.int v188), .val (.int v191), .val (.int v197), .val (.int v200), .val (.int v206), .val (.int v209), .val (.int v215), .val (.ref b218), .val (.ref b304), .val (.ref b480), .unset, .unset] [(.int (((p3.toUInt32 >>> ((6 : Int32) &&& 31).toUInt32).toInt32) &&& (3 : Int32)))])) t → Steps p.tables e below (s₁.setTop (entryFrame m #[(.int p0), (.int p1), (.int p2), (.int p3)] maxLocals)) t := by
    intro t k
    refine pre522 t ?_
    show Steps p.tables e below (T480.setTop (mkF m 178 #[.val (.int p0), .val (.int p1), .val (.int p2), .val (.int p3), .val (.int v182), .val (.int v188), .val (.int v191), .val (.int v197), .val (.int v200), .val (.int v206), .val (.int v209), .val (.int v215), .val (.ref b218), .val (.ref b304), .unset, .unset, .unset] [(.ref b480)])) _
    refine XS.astore X480.here hx rfl (hb hby at_178) rfl rfl (l' := #[.val (.int p0), .val (.int p1), .val (.int p2), .val (.int p3), .val (.int v182), .val (.int v188), .val (.int v191), .val (.int v197), .val (.int v200), .val (.int v206), .val (.int v209), .val (.int v215), .val (.ref b218), .val (.ref b304), .val (.ref b480), .unset, .unset]) rfl ?_
    refine XS.iloadN X480.here hx rfl (hb hby at_180) rfl ?_
    refine XS.bipush X480.here hx rfl (hb hby at_181) ?_
    refine XS.iushr X480.here hx rfl (hb hby at_183) rfl ?_
    refine XS.iconst X480.here hx rfl (hb hby at_184) ?_
    refine XS.iand X480.here hx rfl (hb hby at_185) rfl ?_
    exact k
  obtain ⟨v524, hv524⟩ : ∃ z : Int32, z = (((p3.toUInt32 >>> ((6 : Int32) &&& 31).toUInt32).toInt32) &&& (3 : Int32)) := ⟨_, rfl⟩
  have pre525 : ∀ t, Steps p.tables e below (T480.setTop (mkF m 186 #[.val (.int p0), .val (.int p1), .val (.int p2), .val (.int p3), .val (.int v182), .val (.int v188), .val (.int v191), .val (.int v197), .val (.int v200), .val (.int v206), .val (.int v209), .val (.int v215), .val (.ref b218), .val (.ref b304), .val (.ref b480), .unset, .unset] [(.int v524)])) t → Steps p.tables e below (s₁.setTop (entryFrame m #[(.int p0), (.int p1), (.int p2), (.int p3)] maxLocals)) t := by rw [hv524]; exact pre523
  have pre526 : ∀ t, Steps p.tables e below (T480.setTop (mkF m 191 #[.val (.int p0), .val (.int p1), .val (.int p2), .val (.int p3), .val (.int v182), .val (.int v188), .val (.int v191), .val (.int v197), .val (.int v200), .val (.int v206), .val (.int v209), .val (.int v215), .val (.ref b218), .val (.ref b304), .val (.ref b480), .val (.int v524), .unset] [(.int (1 : Int32)), (.int v524)])) t → Steps p.tables e below (s₁.setTop (entryFrame m #[(.int p0), (.int p1), (.int p2), (.int p3)] maxLocals)) t := by
    intro t k
    refine pre525 t ?_
    show Steps p.tables e below (T480.setTop (mkF m 186 #[.val (.int p0), .val (.int p1), .val (.int p2), .val (.int p3), .val (.int v182), .val (.int v188), .val (.int v191), .val (.int v197), .val (.int v200), .val (.int v206), .val (.int v209), .val (.int v215), .val (.ref b218), .val (.ref b304), .val (.ref b480), .unset, .unset] [(.int v524)])) _
    refine XS.istore X480.here hx rfl (hb hby at_186) rfl (l' := #[.val (.int p0), .val (.int p1), .val (.int p2), .val (.int p3), .val (.int v182), .val (.int v188), .val (.int v191), .val (.int v197), .val (.int v200), .val (.int v206), .val (.int v209), .val (.int v215), .val (.ref b218), .val (.ref b304), .val (.ref b480), .val (.int v524), .unset]) rfl ?_
    refine XS.iload X480.here hx rfl (hb hby at_188) rfl ?_
    refine XS.iconst X480.here hx rfl (hb hby at_190) ?_
    exact k
  by_cases hc191_527 : v524 = (1 : Int32)
  · have pre528 : ∀ t, Steps p.tables e below (T480.setTop (mkF m 198 #[.val (.int p0), .val (.int p1), .val (.int p2), .val (.int p3), .val (.int v182), .val (.int v188), .val (.int v191), .val (.int v197), .val (.int v200), .val (.int v206), .val (.int v209), .val (.int v215), .val (.ref b218), .val (.ref b304), .val (.ref b480), .val (.int v524), .unset] [(.ref b218), (.ref b218)])) t → Steps p.tables e below (s₁.setTop (entryFrame m #[(.int p0), (.int p1), (.int p2), (.int p3)] maxLocals)) t := by
      intro t k
      refine pre526 t ?_
      show Steps p.tables e below (T480.setTop (mkF m 191 #[.val (.int p0), .val (.int p1), .val (.int p2), .val (.int p3), .val (.int v182), .val (.int v188), .val (.int v191), .val (.int v197), .val (.int v200), .val (.int v206), .val (.int v209), .val (.int v215), .val (.ref b218), .val (.ref b304), .val (.ref b480), .val (.int v524), .unset] [(.int (1 : Int32)), (.int v524)])) _
      refine XS.icmpNo X480.here hx rfl (hb hby at_191) rfl (teq hc191_527).2 ?_
      refine XS.aload X480.here hx rfl (hb hby at_194) rfl rfl ?_
      refine XS.aload X480.here hx rfl (hb hby at_196) rfl rfl ?_
      exact k
    obtain ⟨cq529, kq529, q529a, q529b, q529c⟩ := isOf hZ440 e480 Ef486
    obtain ⟨_, _, ⟨T529, L529, k529, n529⟩, -, X529, ⟨Lc529, hQ529, l529, y529, z529⟩, st529⟩ := X480.virtualBack hx (y := (⟨"com/example/oversee/oversee/model/Action", "equals", "(Ljava/lang/Object;)Z"⟩ : MethodName)) (z := (⟨"com/example/oversee/oversee/model/Action", "equals", "(Ljava/lang/Object;)Z"⟩ : MethodName)) ho440 (mvT hZ440 (hw _ (List.mem_of_getElem? (i := 68) rfl))) (mvT hZ440 (hw _ (List.mem_of_getElem? (i := 69) rfl))) (notFace_of_selects (args := #[]) (mvT hZ440 (hw _ (List.mem_of_getElem? (i := 71) rfl)))) (mvT hZ440 (hw _ (List.mem_of_getElem? (i := 71) rfl))) (mvT hZ440 (hw _ (List.mem_of_getElem? (i := 70) rfl))) (by decide) (backOf (W := 0) (rm11_s l Z ar0 hw [] b218 h480 n0 Z480) hZ440 (hw _ (List.mem_of_getElem? (i := 72) rfl)) (hw _ (List.mem_of_getElem? (i := 2) rfl)) (by decide) (by decide)) q529a q529c (g := (mkF m 198 #[.val (.int p0), .val (.int p1), .val (.int p2), .val (.int p3), .val (.int v182), .val (.int v188), .val (.int v191), .val (.int v197), .val (.int v200), .val (.int v206), .val (.int v209), .val (.int v215), .val (.ref b218), .val (.ref b304), .val (.ref b480), .val (.int v524), .unset] [(.ref b218), (.ref b218)])) rfl (by rw [hml]; rfl) (Steps.refl _) (argsL := [(.ref b218)]) (rest := []) (lenOf pd_2 rfl) rfl (by show 2 * 0 + _ ≤ _; exact Nat.le_of_eq rfl) (hb hby at_198) (fun _ _ => ⟨rfl, e480, (by decide : 39 + 0 ≤ _), (by decide : 322 + 0 ≤ _)⟩)
    dsimp only [Pt.U, Pt.locs, Pt.cells, Pt.slots] at X529 l529 y529 z529 st529 hQ529
    subst l529 y529 z529
    obtain ⟨rfl, N529q, e529⟩ := hQ529
    have N529 := Fr.app N480 N529q
    have pre530 : ∀ t, Steps p.tables e below (T529.setTop (mkF m 201 #[.val (.int p0), .val (.int p1), .val (.int p2), .val (.int p3), .val (.int v182), .val (.int v188), .val (.int v191), .val (.int v197), .val (.int v200), .val (.int v206), .val (.int v209), .val (.int v215), .val (.ref b218), .val (.ref b304), .val (.ref b480), .val (.int v524), .unset] [(.int (1 : Int32))])) t → Steps p.tables e below (s₁.setTop (entryFrame m #[(.int p0), (.int p1), (.int p2), (.int p3)] maxLocals)) t := fun t k => pre528 t (st529.trans k)
    obtain ⟨fs, hr, hrun, hended, hRW⟩ := X529.leaveW (s := s) (vm₁ := T440.vm) hS440 (by rw [e529]; exact hk480) (v := some (.int (1 : Int32))) (fun h => by rw [Bd.returns] at h; cases h)
    refine ⟨_, _, pre530 _ ?_, hrun, hended, _, _, rfl, ?_, hRW.1, hRW.2.1, hRW.2.2.1, hRW.2.2.2.mono (by decide) (by decide)⟩
    · show Steps p.tables e below (T529.setTop (mkF m 201 #[.val (.int p0), .val (.int p1), .val (.int p2), .val (.int p3), .val (.int v182), .val (.int v188), .val (.int v191), .val (.int v197), .val (.int v200), .val (.int v206), .val (.int v209), .val (.int v215), .val (.ref b218), .val (.ref b304), .val (.ref b480), .val (.int v524), .unset] [(.int (1 : Int32))])) _
      exact retN X529 hx (t := .boolean) Bd.returns (by simp) (hb hby at_201) hr
    · show Q0 Z p0 p1 p2 p3 gc1 s_SEND s_RECEIVE h0 n0 _ T529.heap _
      rw [e529]
      exact ⟨rfl, N529⟩
  · have pre531 : ∀ t, Steps p.tables e below (T480.setTop (mkF m 205 #[.val (.int p0), .val (.int p1), .val (.int p2), .val (.int p3), .val (.int v182), .val (.int v188), .val (.int v191), .val (.int v197), .val (.int v200), .val (.int v206), .val (.int v209), .val (.int v215), .val (.ref b218), .val (.ref b304), .val (.ref b480), .val (.int v524), .unset] [(.int (2 : Int32)), (.int v524)])) t → Steps p.tables e below (s₁.setTop (entryFrame m #[(.int p0), (.int p1), (.int p2), (.int p3)] maxLocals)) t := by
      intro t k
      refine pre526 t ?_
      show Steps p.tables e below (T480.setTop (mkF m 191 #[.val (.int p0), .val (.int p1), .val (.int p2), .val (.int p3), .val (.int v182), .val (.int v188), .val (.int v191), .val (.int v197), .val (.int v200), .val (.int v206), .val (.int v209), .val (.int v215), .val (.ref b218), .val (.ref b304), .val (.ref b480), .val (.int v524), .unset] [(.int (1 : Int32)), (.int v524)])) _
      refine XS.icmpYes X480.here hx rfl (pc0 := 191) (pc' := 202) rfl (hb hby at_191) rfl (feq hc191_527).2 (by decide) (by decide) ?_
      refine XS.iload X480.here hx rfl (hb hby at_202) rfl ?_
      refine XS.iconst X480.here hx rfl (hb hby at_204) ?_
      exact k
    by_cases hc205_532 : v524 = (2 : Int32)
    · have pre533 : ∀ t, Steps p.tables e below (T480.setTop (mkF m 211 #[.val (.int p0), .val (.int p1), .val (.int p2), .val (.int p3), .val (.int v182), .val (.int v188), .val (.int v191), .val (.int v197), .val (.int v200), .val (.int v206), .val (.int v209), .val (.int v215), .val (.ref b218), .val (.ref b304), .val (.ref b480), .val (.int v524), .unset] [.null, (.ref b218)])) t → Steps p.tables e below (s₁.setTop (entryFrame m #[(.int p0), (.int p1), (.int p2), (.int p3)] maxLocals)) t := by
        intro t k
        refine pre531 t ?_
        show Steps p.tables e below (T480.setTop (mkF m 205 #[.val (.int p0), .val (.int p1), .val (.int p2), .val (.int p3), .val (.int v182), .val (.int v188), .val (.int v191), .val (.int v197), .val (.int v200), .val (.int v206), .val (.int v209), .val (.int v215), .val (.ref b218), .val (.ref b304), .val (.ref b480), .val (.int v524), .unset] [(.int (2 : Int32)), (.int v524)])) _
        refine XS.icmpNo X480.here hx rfl (hb hby at_205) rfl (teq hc205_532).2 ?_
        refine XS.aload X480.here hx rfl (hb hby at_208) rfl rfl ?_
        refine XS.aconstNull X480.here hx rfl (hb hby at_210) ?_
        exact k
      obtain ⟨cq534, kq534, q534a, q534b, q534c⟩ := isOf hZ440 e480 Ef486
      obtain ⟨_, _, ⟨T534, L534, k534, n534⟩, -, X534, ⟨Lc534, hQ534, l534, y534, z534⟩, st534⟩ := X480.virtualBack hx (y := (⟨"com/example/oversee/oversee/model/Action", "equals", "(Ljava/lang/Object;)Z"⟩ : MethodName)) (z := (⟨"com/example/oversee/oversee/model/Action", "equals", "(Ljava/lang/Object;)Z"⟩ : MethodName)) ho440 (mvT hZ440 (hw _ (List.mem_of_getElem? (i := 68) rfl))) (mvT hZ440 (hw _ (List.mem_of_getElem? (i := 69) rfl))) (notFace_of_selects (args := #[]) (mvT hZ440 (hw _ (List.mem_of_getElem? (i := 71) rfl)))) (mvT hZ440 (hw _ (List.mem_of_getElem? (i := 71) rfl))) (mvT hZ440 (hw _ (List.mem_of_getElem? (i := 70) rfl))) (by decide) (backOf (W := 0) (rm11_n l Z ar0 hw [] b218 h480 n0 Z480) hZ440 (hw _ (List.mem_of_getElem? (i := 72) rfl)) (hw _ (List.mem_of_getElem? (i := 2) rfl)) (by decide) (by decide)) q534a q534c (g := (mkF m 211 #[.val (.int p0), .val (.int p1), .val (.int p2), .val (.int p3), .val (.int v182), .val (.int v188), .val (.int v191), .val (.int v197), .val (.int v200), .val (.int v206), .val (.int v209), .val (.int v215), .val (.ref b218), .val (.ref b304), .val (.ref b480), .val (.int v524), .unset] [.null, (.ref b218)])) rfl (by rw [hml]; rfl) (Steps.refl _) (argsL := [.null]) (rest := []) (lenOf pd_2 rfl) rfl (by show 2 * 0 + _ ≤ _; exact Nat.le_of_eq rfl) (hb hby at_211) (fun _ _ => ⟨rfl, e480, (by decide : 39 + 0 ≤ _), (by decide : 322 + 0 ≤ _)⟩)
      dsimp only [Pt.U, Pt.locs, Pt.cells, Pt.slots] at X534 l534 y534 z534 st534 hQ534
      subst l534 y534 z534
      obtain ⟨rfl, N534q, e534⟩ := hQ534
      have N534 := Fr.app N480 N534q
      have pre535 : ∀ t, Steps p.tables e below (T534.setTop (mkF m 214 #[.val (.int p0), .val (.int p1), .val (.int p2), .val (.int p3), .val (.int v182), .val (.int v188), .val (.int v191), .val (.int v197), .val (.int v200), .val (.int v206), .val (.int v209), .val (.int v215), .val (.ref b218), .val (.ref b304), .val (.ref b480), .val (.int v524), .unset] [(.int (0 : Int32))])) t → Steps p.tables e below (s₁.setTop (entryFrame m #[(.int p0), (.int p1), (.int p2), (.int p3)] maxLocals)) t := fun t k => pre533 t (st534.trans k)
      obtain ⟨fs, hr, hrun, hended, hRW⟩ := X534.leaveW (s := s) (vm₁ := T440.vm) hS440 (by rw [e534]; exact hk480) (v := some (.int (1 : Int32))) (fun h => by rw [Bd.returns] at h; cases h)
      refine ⟨_, _, pre535 _ ?_, hrun, hended, _, _, rfl, ?_, hRW.1, hRW.2.1, hRW.2.2.1, hRW.2.2.2.mono (by decide) (by decide)⟩
      · show Steps p.tables e below (T534.setTop (mkF m 214 #[.val (.int p0), .val (.int p1), .val (.int p2), .val (.int p3), .val (.int v182), .val (.int v188), .val (.int v191), .val (.int v197), .val (.int v200), .val (.int v206), .val (.int v209), .val (.int v215), .val (.ref b218), .val (.ref b304), .val (.ref b480), .val (.int v524), .unset] [(.int (0 : Int32))])) _
        refine XS.ifNo X534.here hx rfl (hb hby at_214) rfl ((if0 _ _).trans (teq (by decide : (0 : Int32) = (0 : Int32))).2) ?_
        refine XS.iconst X534.here hx rfl (hb hby at_217) ?_
        refine XS.goto X534.here hx rfl (pc0 := 218) (pc' := 222) rfl (hb hby at_218) (by decide) (by decide) ?_
        exact retN X534 hx (t := .boolean) Bd.returns (by simp) (hb hby at_222) hr
      · show Q0 Z p0 p1 p2 p3 gc1 s_SEND s_RECEIVE h0 n0 _ T534.heap _
        rw [e534]
        exact ⟨rfl, N534⟩
    · have pre536 : ∀ t, Steps p.tables e below (T480.setTop (mkF m 226 #[.val (.int p0), .val (.int p1), .val (.int p2), .val (.int p3), .val (.int v182), .val (.int v188), .val (.int v191), .val (.int v197), .val (.int v200), .val (.int v206), .val (.int v209), .val (.int v215), .val (.ref b218), .val (.ref b304), .val (.ref b480), .val (.int v524), .unset] [(.int (3 : Int32)), (.int v524)])) t → Steps p.tables e below (s₁.setTop (entryFrame m #[(.int p0), (.int p1), (.int p2), (.int p3)] maxLocals)) t := by
        intro t k
        refine pre531 t ?_
        show Steps p.tables e below (T480.setTop (mkF m 205 #[.val (.int p0), .val (.int p1), .val (.int p2), .val (.int p3), .val (.int v182), .val (.int v188), .val (.int v191), .val (.int v197), .val (.int v200), .val (.int v206), .val (.int v209), .val (.int v215), .val (.ref b218), .val (.ref b304), .val (.ref b480), .val (.int v524), .unset] [(.int (2 : Int32)), (.int v524)])) _
        refine XS.icmpYes X480.here hx rfl (pc0 := 205) (pc' := 223) rfl (hb hby at_205) rfl (feq hc205_532).2 (by decide) (by decide) ?_
        refine XS.iload X480.here hx rfl (hb hby at_223) rfl ?_
        refine XS.iconst X480.here hx rfl (hb hby at_225) ?_
        exact k
      by_cases hc226_537 : v524 = (3 : Int32)
      · have pre538 : ∀ t, Steps p.tables e below (T480.setTop (mkF m 233 #[.val (.int p0), .val (.int p1), .val (.int p2), .val (.int p3), .val (.int v182), .val (.int v188), .val (.int v191), .val (.int v197), .val (.int v200), .val (.int v206), .val (.int v209), .val (.int v215), .val (.ref b218), .val (.ref b304), .val (.ref b480), .val (.int v524), .unset] [(.ref b480), (.ref b218)])) t → Steps p.tables e below (s₁.setTop (entryFrame m #[(.int p0), (.int p1), (.int p2), (.int p3)] maxLocals)) t := by
          intro t k
          refine pre536 t ?_
          show Steps p.tables e below (T480.setTop (mkF m 226 #[.val (.int p0), .val (.int p1), .val (.int p2), .val (.int p3), .val (.int v182), .val (.int v188), .val (.int v191), .val (.int v197), .val (.int v200), .val (.int v206), .val (.int v209), .val (.int v215), .val (.ref b218), .val (.ref b304), .val (.ref b480), .val (.int v524), .unset] [(.int (3 : Int32)), (.int v524)])) _
          refine XS.icmpNo X480.here hx rfl (hb hby at_226) rfl (teq hc226_537).2 ?_
          refine XS.aload X480.here hx rfl (hb hby at_229) rfl rfl ?_
          refine XS.aload X480.here hx rfl (hb hby at_231) rfl rfl ?_
          exact k
        obtain ⟨cq539, kq539, q539a, q539b, q539c⟩ := isOf hZ440 e480 Ef486
        obtain ⟨_, _, ⟨T539, L539, k539, n539⟩, -, X539, ⟨Lc539, hQ539, l539, y539, z539⟩, st539⟩ := X480.virtualBack hx (y := (⟨"com/example/oversee/oversee/model/Action", "equals", "(Ljava/lang/Object;)Z"⟩ : MethodName)) (z := (⟨"com/example/oversee/oversee/model/Action", "equals", "(Ljava/lang/Object;)Z"⟩ : MethodName)) ho440 (mvT hZ440 (hw _ (List.mem_of_getElem? (i := 68) rfl))) (mvT hZ440 (hw _ (List.mem_of_getElem? (i := 69) rfl))) (notFace_of_selects (args := #[]) (mvT hZ440 (hw _ (List.mem_of_getElem? (i := 71) rfl)))) (mvT hZ440 (hw _ (List.mem_of_getElem? (i := 71) rfl))) (mvT hZ440 (hw _ (List.mem_of_getElem? (i := 70) rfl))) (by decide) (backOf (W := 0) (rm11_l l Z ar0 hw [] b218 b480 h480 n0 Z480 ne_b218_b480 Ob480_0) hZ440 (hw _ (List.mem_of_getElem? (i := 72) rfl)) (hw _ (List.mem_of_getElem? (i := 2) rfl)) (by decide) (by decide)) q539a q539c (g := (mkF m 233 #[.val (.int p0), .val (.int p1), .val (.int p2), .val (.int p3), .val (.int v182), .val (.int v188), .val (.int v191), .val (.int v197), .val (.int v200), .val (.int v206), .val (.int v209), .val (.int v215), .val (.ref b218), .val (.ref b304), .val (.ref b480), .val (.int v524), .unset] [(.ref b480), (.ref b218)])) rfl (by rw [hml]; rfl) (Steps.refl _) (argsL := [(.ref b480)]) (rest := []) (lenOf pd_2 rfl) rfl (by show 2 * 0 + _ ≤ _; exact Nat.le_of_eq rfl) (hb hby at_233) (fun _ _ => ⟨rfl, e480, (by decide : 39 + 0 ≤ _), (by decide : 322 + 0 ≤ _)⟩)
        dsimp only [Pt.U, Pt.locs, Pt.cells, Pt.slots] at X539 l539 y539 z539 st539 hQ539
        subst l539 y539 z539
        obtain ⟨rfl, N539q, e539⟩ := hQ539
        have N539 := Fr.app N480 N539q
        have pre540 : ∀ t, Steps p.tables e below (T539.setTop (mkF m 236 #[.val (.int p0), .val (.int p1), .val (.int p2), .val (.int p3), .val (.int v182), .val (.int v188), .val (.int v191), .val (.int v197), .val (.int v200), .val (.int v206), .val (.int v209), .val (.int v215), .val (.ref b218), .val (.ref b304), .val (.ref b480), .val (.int v524), .unset] [(.int (0 : Int32))])) t → Steps p.tables e below (s₁.setTop (entryFrame m #[(.int p0), (.int p1), (.int p2), (.int p3)] maxLocals)) t := fun t k => pre538 t (st539.trans k)
        obtain ⟨fs, hr, hrun, hended, hRW⟩ := X539.leaveW (s := s) (vm₁ := T440.vm) hS440 (by rw [e539]; exact hk480) (v := some (.int (1 : Int32))) (fun h => by rw [Bd.returns] at h; cases h)
        refine ⟨_, _, pre540 _ ?_, hrun, hended, _, _, rfl, ?_, hRW.1, hRW.2.1, hRW.2.2.1, hRW.2.2.2.mono (by decide) (by decide)⟩
        · show Steps p.tables e below (T539.setTop (mkF m 236 #[.val (.int p0), .val (.int p1), .val (.int p2), .val (.int p3), .val (.int v182), .val (.int v188), .val (.int v191), .val (.int v197), .val (.int v200), .val (.int v206), .val (.int v209), .val (.int v215), .val (.ref b218), .val (.ref b304), .val (.ref b480), .val (.int v524), .unset] [(.int (0 : Int32))])) _
          refine XS.ifNo X539.here hx rfl (hb hby at_236) rfl ((if0 _ _).trans (teq (by decide : (0 : Int32) = (0 : Int32))).2) ?_
          refine XS.iconst X539.here hx rfl (hb hby at_239) ?_
          refine XS.goto X539.here hx rfl (pc0 := 240) (pc' := 244) rfl (hb hby at_240) (by decide) (by decide) ?_
          exact retN X539 hx (t := .boolean) Bd.returns (by simp) (hb hby at_244) hr
        · show Q0 Z p0 p1 p2 p3 gc1 s_SEND s_RECEIVE h0 n0 _ T539.heap _
          rw [e539]
          exact ⟨rfl, N539⟩
      · have pre541 : ∀ t, Steps p.tables e below (T480.setTop (mkF m 249 #[.val (.int p0), .val (.int p1), .val (.int p2), .val (.int p3), .val (.int v182), .val (.int v188), .val (.int v191), .val (.int v197), .val (.int v200), .val (.int v206), .val (.int v209), .val (.int v215), .val (.ref b218), .val (.ref b304), .val (.ref b480), .val (.int v524), .unset] [(.int v188), (.int v182)])) t → Steps p.tables e below (s₁.setTop (entryFrame m #[(.int p0), (.int p1), (.int p2), (.int p3)] maxLocals)) t := by
          intro t k
          refine pre536 t ?_
          show Steps p.tables e below (T480.setTop (mkF m 226 #[.val (.int p0), .val (.int p1), .val (.int p2), .val (.int p3), .val (.int v182), .val (.int v188), .val (.int v191), .val (.int v197), .val (.int v200), .val (.int v206), .val (.int v209), .val (.int v215), .val (.ref b218), .val (.ref b304), .val (.ref b480), .val (.int v524), .unset] [(.int (3 : Int32)), (.int v524)])) _
          refine XS.icmpYes X480.here hx rfl (pc0 := 226) (pc' := 245) rfl (hb hby at_226) rfl (feq hc226_537).2 (by decide) (by decide) ?_
          refine XS.iload X480.here hx rfl (hb hby at_245) rfl ?_
          refine XS.iload X480.here hx rfl (hb hby at_247) rfl ?_
          exact k
        obtain ⟨v554, pre555, hv554⟩ : ∃ (v554 : Int32), (∀ t, Steps p.tables e below (T480.setTop (mkF m 278 #[.val (.int p0), .val (.int p1), .val (.int p2), .val (.int p3), .val (.int v182), .val (.int v188), .val (.int v191), .val (.int v197), .val (.int v200), .val (.int v206), .val (.int v209), .val (.int v215), .val (.ref b218), .val (.ref b304), .val (.ref b480), .val (.int v524), .unset] [(.int v554)])) t → Steps p.tables e below (s₁.setTop (entryFrame m #[(.int p0), (.int p1), (.int p2), (.int p3)] maxLocals)) t) ∧ v554 = (if v182 = v188 then (if v191 = v197 then (if v209 = v215 then (if v200 = v206 then (1 : Int32) else (0 : Int32)) else (0 : Int32)) else (0 : Int32)) else (0 : Int32)) := by
          by_cases hc249_542 : v182 = v188
          · have pre543 : ∀ t, Steps p.tables e below (T480.setTop (mkF m 256 #[.val (.int p0), .val (.int p1), .val (.int p2), .val (.int p3), .val (.int v182), .val (.int v188), .val (.int v191), .val (.int v197), .val (.int v200), .val (.int v206), .val (.int v209), .val (.int v215), .val (.ref b218), .val (.ref b304), .val (.ref b480), .val (.int v524), .unset] [(.int v197), (.int v191)])) t → Steps p.tables e below (s₁.setTop (entryFrame m #[(.int p0), (.int p1), (.int p2), (.int p3)] maxLocals)) t := by
              intro t k
              refine pre541 t ?_
              show Steps p.tables e below (T480.setTop (mkF m 249 #[.val (.int p0), .val (.int p1), .val (.int p2), .val (.int p3), .val (.int v182), .val (.int v188), .val (.int v191), .val (.int v197), .val (.int v200), .val (.int v206), .val (.int v209), .val (.int v215), .val (.ref b218), .val (.ref b304), .val (.ref b480), .val (.int v524), .unset] [(.int v188), (.int v182)])) _
              refine XS.icmpNo X480.here hx rfl (hb hby at_249) rfl (teq hc249_542).2 ?_
              refine XS.iload X480.here hx rfl (hb hby at_252) rfl ?_
              refine XS.iload X480.here hx rfl (hb hby at_254) rfl ?_
              exact k
            by_cases hc256_544 : v191 = v197
            · have pre545 : ∀ t, Steps p.tables e below (T480.setTop (mkF m 263 #[.val (.int p0), .val (.int p1), .val (.int p2), .val (.int p3), .val (.int v182), .val (.int v188), .val (.int v191), .val (.int v197), .val (.int v200), .val (.int v206), .val (.int v209), .val (.int v215), .val (.ref b218), .val (.ref b304), .val (.ref b480), .val (.int v524), .unset] [(.int v215), (.int v209)])) t → Steps p.tables e below (s₁.setTop (entryFrame m #[(.int p0), (.int p1), (.int p2), (.int p3)] maxLocals)) t := by
                intro t k
                refine pre543 t ?_
                show Steps p.tables e below (T480.setTop (mkF m 256 #[.val (.int p0), .val (.int p1), .val (.int p2), .val (.int p3), .val (.int v182), .val (.int v188), .val (.int v191), .val (.int v197), .val (.int v200), .val (.int v206), .val (.int v209), .val (.int v215), .val (.ref b218), .val (.ref b304), .val (.ref b480), .val (.int v524), .unset] [(.int v197), (.int v191)])) _
                refine XS.icmpNo X480.here hx rfl (hb hby at_256) rfl (teq hc256_544).2 ?_
                refine XS.iload X480.here hx rfl (hb hby at_259) rfl ?_
                refine XS.iload X480.here hx rfl (hb hby at_261) rfl ?_
                exact k
              by_cases hc263_546 : v209 = v215
              · have pre547 : ∀ t, Steps p.tables e below (T480.setTop (mkF m 270 #[.val (.int p0), .val (.int p1), .val (.int p2), .val (.int p3), .val (.int v182), .val (.int v188), .val (.int v191), .val (.int v197), .val (.int v200), .val (.int v206), .val (.int v209), .val (.int v215), .val (.ref b218), .val (.ref b304), .val (.ref b480), .val (.int v524), .unset] [(.int v206), (.int v200)])) t → Steps p.tables e below (s₁.setTop (entryFrame m #[(.int p0), (.int p1), (.int p2), (.int p3)] maxLocals)) t := by
                  intro t k
                  refine pre545 t ?_
                  show Steps p.tables e below (T480.setTop (mkF m 263 #[.val (.int p0), .val (.int p1), .val (.int p2), .val (.int p3), .val (.int v182), .val (.int v188), .val (.int v191), .val (.int v197), .val (.int v200), .val (.int v206), .val (.int v209), .val (.int v215), .val (.ref b218), .val (.ref b304), .val (.ref b480), .val (.int v524), .unset] [(.int v215), (.int v209)])) _
                  refine XS.icmpNo X480.here hx rfl (hb hby at_263) rfl (teq hc263_546).2 ?_
                  refine XS.iload X480.here hx rfl (hb hby at_266) rfl ?_
                  refine XS.iload X480.here hx rfl (hb hby at_268) rfl ?_
                  exact k
                by_cases hc270_548 : v200 = v206
                · have pre549 : ∀ t, Steps p.tables e below (T480.setTop (mkF m 278 #[.val (.int p0), .val (.int p1), .val (.int p2), .val (.int p3), .val (.int v182), .val (.int v188), .val (.int v191), .val (.int v197), .val (.int v200), .val (.int v206), .val (.int v209), .val (.int v215), .val (.ref b218), .val (.ref b304), .val (.ref b480), .val (.int v524), .unset] [(.int (1 : Int32))])) t → Steps p.tables e below (s₁.setTop (entryFrame m #[(.int p0), (.int p1), (.int p2), (.int p3)] maxLocals)) t := by
                    intro t k
                    refine pre547 t ?_
                    show Steps p.tables e below (T480.setTop (mkF m 270 #[.val (.int p0), .val (.int p1), .val (.int p2), .val (.int p3), .val (.int v182), .val (.int v188), .val (.int v191), .val (.int v197), .val (.int v200), .val (.int v206), .val (.int v209), .val (.int v215), .val (.ref b218), .val (.ref b304), .val (.ref b480), .val (.int v524), .unset] [(.int v206), (.int v200)])) _
                    refine XS.icmpNo X480.here hx rfl (hb hby at_270) rfl (teq hc270_548).2 ?_
                    refine XS.iconst X480.here hx rfl (hb hby at_273) ?_
                    refine XS.goto X480.here hx rfl (pc0 := 274) (pc' := 278) rfl (hb hby at_274) (by decide) (by decide) ?_
                    exact k
                  exact ⟨(1 : Int32), pre549, by rw [if_pos hc249_542, if_pos hc256_544, if_pos hc263_546, if_pos hc270_548]⟩
                · have pre550 : ∀ t, Steps p.tables e below (T480.setTop (mkF m 278 #[.val (.int p0), .val (.int p1), .val (.int p2), .val (.int p3), .val (.int v182), .val (.int v188), .val (.int v191), .val (.int v197), .val (.int v200), .val (.int v206), .val (.int v209), .val (.int v215), .val (.ref b218), .val (.ref b304), .val (.ref b480), .val (.int v524), .unset] [(.int (0 : Int32))])) t → Steps p.tables e below (s₁.setTop (entryFrame m #[(.int p0), (.int p1), (.int p2), (.int p3)] maxLocals)) t := by
                    intro t k
                    refine pre547 t ?_
                    show Steps p.tables e below (T480.setTop (mkF m 270 #[.val (.int p0), .val (.int p1), .val (.int p2), .val (.int p3), .val (.int v182), .val (.int v188), .val (.int v191), .val (.int v197), .val (.int v200), .val (.int v206), .val (.int v209), .val (.int v215), .val (.ref b218), .val (.ref b304), .val (.ref b480), .val (.int v524), .unset] [(.int v206), (.int v200)])) _
                    refine XS.icmpYes X480.here hx rfl (pc0 := 270) (pc' := 277) rfl (hb hby at_270) rfl (feq hc270_548).2 (by decide) (by decide) ?_
                    refine XS.iconst X480.here hx rfl (hb hby at_277) ?_
                    exact k
                  exact ⟨(0 : Int32), pre550, by rw [if_pos hc249_542, if_pos hc256_544, if_pos hc263_546, if_neg hc270_548]⟩
              · have pre551 : ∀ t, Steps p.tables e below (T480.setTop (mkF m 278 #[.val (.int p0), .val (.int p1), .val (.int p2), .val (.int p3), .val (.int v182), .val (.int v188), .val (.int v191), .val (.int v197), .val (.int v200), .val (.int v206), .val (.int v209), .val (.int v215), .val (.ref b218), .val (.ref b304), .val (.ref b480), .val (.int v524), .unset] [(.int (0 : Int32))])) t → Steps p.tables e below (s₁.setTop (entryFrame m #[(.int p0), (.int p1), (.int p2), (.int p3)] maxLocals)) t := by
                  intro t k
                  refine pre545 t ?_
                  show Steps p.tables e below (T480.setTop (mkF m 263 #[.val (.int p0), .val (.int p1), .val (.int p2), .val (.int p3), .val (.int v182), .val (.int v188), .val (.int v191), .val (.int v197), .val (.int v200), .val (.int v206), .val (.int v209), .val (.int v215), .val (.ref b218), .val (.ref b304), .val (.ref b480), .val (.int v524), .unset] [(.int v215), (.int v209)])) _
                  refine XS.icmpYes X480.here hx rfl (pc0 := 263) (pc' := 277) rfl (hb hby at_263) rfl (feq hc263_546).2 (by decide) (by decide) ?_
                  refine XS.iconst X480.here hx rfl (hb hby at_277) ?_
                  exact k
                exact ⟨(0 : Int32), pre551, by rw [if_pos hc249_542, if_pos hc256_544, if_neg hc263_546]⟩
            · have pre552 : ∀ t, Steps p.tables e below (T480.setTop (mkF m 278 #[.val (.int p0), .val (.int p1), .val (.int p2), .val (.int p3), .val (.int v182), .val (.int v188), .val (.int v191), .val (.int v197), .val (.int v200), .val (.int v206), .val (.int v209), .val (.int v215), .val (.ref b218), .val (.ref b304), .val (.ref b480), .val (.int v524), .unset] [(.int (0 : Int32))])) t → Steps p.tables e below (s₁.setTop (entryFrame m #[(.int p0), (.int p1), (.int p2), (.int p3)] maxLocals)) t := by
                intro t k
                refine pre543 t ?_
                show Steps p.tables e below (T480.setTop (mkF m 256 #[.val (.int p0), .val (.int p1), .val (.int p2), .val (.int p3), .val (.int v182), .val (.int v188), .val (.int v191), .val (.int v197), .val (.int v200), .val (.int v206), .val (.int v209), .val (.int v215), .val (.ref b218), .val (.ref b304), .val (.ref b480), .val (.int v524), .unset] [(.int v197), (.int v191)])) _
                refine XS.icmpYes X480.here hx rfl (pc0 := 256) (pc' := 277) rfl (hb hby at_256) rfl (feq hc256_544).2 (by decide) (by decide) ?_
                refine XS.iconst X480.here hx rfl (hb hby at_277) ?_
                exact k
              exact ⟨(0 : Int32), pre552, by rw [if_pos hc249_542, if_neg hc256_544]⟩
          · have pre553 : ∀ t, Steps p.tables e below (T480.setTop (mkF m 278 #[.val (.int p0), .val (.int p1), .val (.int p2), .val (.int p3), .val (.int v182), .val (.int v188), .val (.int v191), .val (.int v197), .val (.int v200), .val (.int v206), .val (.int v209), .val (.int v215), .val (.ref b218), .val (.ref b304), .val (.ref b480), .val (.int v524), .unset] [(.int (0 : Int32))])) t → Steps p.tables e below (s₁.setTop (entryFrame m #[(.int p0), (.int p1), (.int p2), (.int p3)] maxLocals)) t := by
              intro t k
              refine pre541 t ?_
              show Steps p.tables e below (T480.setTop (mkF m 249 #[.val (.int p0), .val (.int p1), .val (.int p2), .val (.int p3), .val (.int v182), .val (.int v188), .val (.int v191), .val (.int v197), .val (.int v200), .val (.int v206), .val (.int v209), .val (.int v215), .val (.ref b218), .val (.ref b304), .val (.ref b480), .val (.int v524), .unset] [(.int v188), (.int v182)])) _
              refine XS.icmpYes X480.here hx rfl (pc0 := 249) (pc' := 277) rfl (hb hby at_249) rfl (feq hc249_542).2 (by decide) (by decide) ?_
              refine XS.iconst X480.here hx rfl (hb hby at_277) ?_
              exact k
            exact ⟨(0 : Int32), pre553, by rw [if_neg hc249_542]⟩
        have pre556 : ∀ t, Steps p.tables e below (T480.setTop (mkF m 284 #[.val (.int p0), .val (.int p1), .val (.int p2), .val (.int p3), .val (.int v182), .val (.int v188), .val (.int v191), .val (.int v197), .val (.int v200), .val (.int v206), .val (.int v209), .val (.int v215), .val (.ref b218), .val (.ref b304), .val (.ref b480), .val (.int v524), .val (.int v554)] [(.ref b304), (.ref b218)])) t → Steps p.tables e below (s₁.setTop (entryFrame m #[(.int p0), (.int p1), (.int p2), (.int p3)] maxLocals)) t := by
          intro t k
          refine pre555 t ?_
          show Steps p.tables e below (T480.setTop (mkF m 278 #[.val (.int p0), .val (.int p1), .val (.int p2), .val (.int p3), .val (.int v182), .val (.int v188), .val (.int v191), .val (.int v197), .val (.int v200), .val (.int v206), .val (.int v209), .val (.int v215), .val (.ref b218), .val (.ref b304), .val (.ref b480), .val (.int v524), .unset] [(.int v554)])) _
          refine XS.istore X480.here hx rfl (hb hby at_278) rfl (l' := #[.val (.int p0), .val (.int p1), .val (.int p2), .val (.int p3), .val (.int v182), .val (.int v188), .val (.int v191), .val (.int v197), .val (.int v200), .val (.int v206), .val (.int v209), .val (.int v215), .val (.ref b218), .val (.ref b304), .val (.ref b480), .val (.int v524), .val (.int v554)]) rfl ?_
          refine XS.aload X480.here hx rfl (hb hby at_280) rfl rfl ?_
          refine XS.aload X480.here hx rfl (hb hby at_282) rfl rfl ?_
          exact k
        obtain ⟨cq557, kq557, q557a, q557b, q557c⟩ := isOf hZ440 e480 Ef486
        obtain ⟨_, _, ⟨T557, L557, k557, n557⟩, -, X557, ⟨Lc557, hQ557, l557, y557, z557⟩, st557⟩ := X480.virtualBack hx (y := (⟨"com/example/oversee/oversee/model/Action", "equals", "(Ljava/lang/Object;)Z"⟩ : MethodName)) (z := (⟨"com/example/oversee/oversee/model/Action", "equals", "(Ljava/lang/Object;)Z"⟩ : MethodName)) ho440 (mvT hZ440 (hw _ (List.mem_of_getElem? (i := 68) rfl))) (mvT hZ440 (hw _ (List.mem_of_getElem? (i := 69) rfl))) (notFace_of_selects (args := #[]) (mvT hZ440 (hw _ (List.mem_of_getElem? (i := 71) rfl)))) (mvT hZ440 (hw _ (List.mem_of_getElem? (i := 71) rfl))) (mvT hZ440 (hw _ (List.mem_of_getElem? (i := 70) rfl))) (by decide) (backOf (W := 0) (rm11_y l Z ar0 hw [] b218 b304 v182 v191 v200 v188 v197 v206 gc1 o258 b226 b226b kb226b b239 b239b kb239b b261 b261b kb261b o398 b330 b330b kb330b b361 b361b kb361b b401 b401b kb401b h480 n0 Z480 P5 Sf481 Ef486 Ff502 Ff500 Ef487 Ff489 Ff488 Vf490 Ff501 Ef491 Ff493 Ff492 Vf494 Ff503 Ef496 Ff498 Ff497 Vf499 Ef504 Ff520 Ff518 Ef505 Ff507 Ff506 Vf508 Ff519 Ef509 Ff511 Ff510 Vf512 Ff521 Ef514 Ff516 Ff515 Vf517 ne_b218_b304) hZ440 (hw _ (List.mem_of_getElem? (i := 72) rfl)) (hw _ (List.mem_of_getElem? (i := 2) rfl)) (by decide) (by decide)) q557a q557c (g := (mkF m 284 #[.val (.int p0), .val (.int p1), .val (.int p2), .val (.int p3), .val (.int v182), .val (.int v188), .val (.int v191), .val (.int v197), .val (.int v200), .val (.int v206), .val (.int v209), .val (.int v215), .val (.ref b218), .val (.ref b304), .val (.ref b480), .val (.int v524), .val (.int v554)] [(.ref b304), (.ref b218)])) rfl (by rw [hml]; rfl) (Steps.refl _) (argsL := [(.ref b304)]) (rest := []) (lenOf pd_2 rfl) rfl (by show 2 * 0 + _ ≤ _; exact Nat.le_of_eq rfl) (hb hby at_284) (fun _ _ => ⟨rfl, e480, (by decide : 39 + 0 ≤ _), (by decide : 322 + 0 ≤ _)⟩)
        dsimp only [Pt.U, Pt.locs, Pt.cells, Pt.slots] at X557 l557 y557 z557 st557 hQ557
        subst l557 y557 z557
        obtain ⟨rfl, N557q, e557⟩ := hQ557
        have N557 := Fr.app N480 N557q
        have pre558 : ∀ t, Steps p.tables e below (T557.setTop (mkF m 287 #[.val (.int p0), .val (.int p1), .val (.int p2), .val (.int p3), .val (.int v182), .val (.int v188), .val (.int v191), .val (.int v197), .val (.int v200), .val (.int v206), .val (.int v209), .val (.int v215), .val (.ref b218), .val (.ref b304), .val (.ref b480), .val (.int v524), .val (.int v554)] [(.int (f11_y v182 v191 v200 v188 v197 v206 o258 o398))])) t → Steps p.tables e below (s₁.setTop (entryFrame m #[(.int p0), (.int p1), (.int p2), (.int p3)] maxLocals)) t := fun t k => pre556 t (st557.trans k)
        have pre559 : ∀ t, Steps p.tables e below (T557.setTop (mkF m 289 #[.val (.int p0), .val (.int p1), .val (.int p2), .val (.int p3), .val (.int v182), .val (.int v188), .val (.int v191), .val (.int v197), .val (.int v200), .val (.int v206), .val (.int v209), .val (.int v215), .val (.ref b218), .val (.ref b304), .val (.ref b480), .val (.int v524), .val (.int v554)] [(.int v554), (.int (f11_y v182 v191 v200 v188 v197 v206 o258 o398))])) t → Steps p.tables e below (s₁.setTop (entryFrame m #[(.int p0), (.int p1), (.int p2), (.int p3)] maxLocals)) t := by
          intro t k
          refine pre558 t ?_
          show Steps p.tables e below (T557.setTop (mkF m 287 #[.val (.int p0), .val (.int p1), .val (.int p2), .val (.int p3), .val (.int v182), .val (.int v188), .val (.int v191), .val (.int v197), .val (.int v200), .val (.int v206), .val (.int v209), .val (.int v215), .val (.ref b218), .val (.ref b304), .val (.ref b480), .val (.int v524), .val (.int v554)] [(.int (f11_y v182 v191 v200 v188 v197 v206 o258 o398))])) _
          refine XS.iload X557.here hx rfl (hb hby at_287) rfl ?_
          exact k
        by_cases hc289_560 : (f11_y v182 v191 v200 v188 v197 v206 o258 o398) = v554
        · have pre561 : ∀ t, Steps p.tables e below (T557.setTop (mkF m 296 #[.val (.int p0), .val (.int p1), .val (.int p2), .val (.int p3), .val (.int v182), .val (.int v188), .val (.int v191), .val (.int v197), .val (.int v200), .val (.int v206), .val (.int v209), .val (.int v215), .val (.ref b218), .val (.ref b304), .val (.ref b480), .val (.int v524), .val (.int v554)] [(.ref b218), (.ref b304)])) t → Steps p.tables e below (s₁.setTop (entryFrame m #[(.int p0), (.int p1), (.int p2), (.int p3)] maxLocals)) t := by
            intro t k
            refine pre559 t ?_
            show Steps p.tables e below (T557.setTop (mkF m 289 #[.val (.int p0), .val (.int p1), .val (.int p2), .val (.int p3), .val (.int v182), .val (.int v188), .val (.int v191), .val (.int v197), .val (.int v200), .val (.int v206), .val (.int v209), .val (.int v215), .val (.ref b218), .val (.ref b304), .val (.ref b480), .val (.int v524), .val (.int v554)] [(.int v554), (.int (f11_y v182 v191 v200 v188 v197 v206 o258 o398))])) _
            refine XS.icmpNo X557.here hx rfl (hb hby at_289) rfl (teq hc289_560).2 ?_
            refine XS.aload X557.here hx rfl (hb hby at_292) rfl rfl ?_
            refine XS.aload X557.here hx rfl (hb hby at_294) rfl rfl ?_
            exact k
          obtain ⟨cq562, kq562, q562a, q562b, q562c⟩ := isOf hZ440 e557 Ef504
          obtain ⟨_, _, ⟨T562, L562, k562, n562⟩, -, X562, ⟨Lc562, hQ562, l562, y562, z562⟩, st562⟩ := X557.virtualBack hx (y := (⟨"com/example/oversee/oversee/model/Action", "equals", "(Ljava/lang/Object;)Z"⟩ : MethodName)) (z := (⟨"com/example/oversee/oversee/model/Action", "equals", "(Ljava/lang/Object;)Z"⟩ : MethodName)) ho440 (mvT hZ440 (hw _ (List.mem_of_getElem? (i := 68) rfl))) (mvT hZ440 (hw _ (List.mem_of_getElem? (i := 69) rfl))) (notFace_of_selects (args := #[]) (mvT hZ440 (hw _ (List.mem_of_getElem? (i := 71) rfl)))) (mvT hZ440 (hw _ (List.mem_of_getElem? (i := 71) rfl))) (mvT hZ440 (hw _ (List.mem_of_getElem? (i := 70) rfl))) (by decide) (backOf (W := 0) (rm11_y l Z ar0 hw [] b304 b218 v188 v197 v206 v182 v191 v200 gc1 o398 b330 b330b kb330b b361 b361b kb361b b401 b401b kb401b o258 b226 b226b kb226b b239 b239b kb239b b261 b261b kb261b h480 n0 Z480 P5 Sf481 Ef504 Ff520 Ff518 Ef505 Ff507 Ff506 Vf508 Ff519 Ef509 Ff511 Ff510 Vf512 Ff521 Ef514 Ff516 Ff515 Vf517 Ef486 Ff502 Ff500 Ef487 Ff489 Ff488 Vf490 Ff501 Ef491 Ff493 Ff492 Vf494 Ff503 Ef496 Ff498 Ff497 Vf499 ne_b218_b304.symm) hZ440 (hw _ (List.mem_of_getElem? (i := 72) rfl)) (hw _ (List.mem_of_getElem? (i := 2) rfl)) (by decide) (by decide)) q562a q562c (g := (mkF m 296 #[.val (.int p0), .val (.int p1), .val (.int p2), .val (.int p3), .val (.int v182), .val (.int v188), .val (.int v191), .val (.int v197), .val (.int v200), .val (.int v206), .val (.int v209), .val (.int v215), .val (.ref b218), .val (.ref b304), .val (.ref b480), .val (.int v524), .val (.int v554)] [(.ref b218), (.ref b304)])) rfl (by rw [hml]; rfl) (Steps.refl _) (argsL := [(.ref b218)]) (rest := []) (lenOf pd_2 rfl) rfl (by show 2 * 0 + _ ≤ _; exact Nat.le_of_eq rfl) (hb hby at_296) (fun _ _ => ⟨rfl, e557, (by decide : 39 + 0 ≤ _), (by decide : 322 + 0 ≤ _)⟩)
          dsimp only [Pt.U, Pt.locs, Pt.cells, Pt.slots] at X562 l562 y562 z562 st562 hQ562
          subst l562 y562 z562
          obtain ⟨rfl, N562q, e562⟩ := hQ562
          have N562 := Fr.app N557 N562q
          have pre563 : ∀ t, Steps p.tables e below (T562.setTop (mkF m 299 #[.val (.int p0), .val (.int p1), .val (.int p2), .val (.int p3), .val (.int v182), .val (.int v188), .val (.int v191), .val (.int v197), .val (.int v200), .val (.int v206), .val (.int v209), .val (.int v215), .val (.ref b218), .val (.ref b304), .val (.ref b480), .val (.int v524), .val (.int v554)] [(.int (f11_y v188 v197 v206 v182 v191 v200 o398 o258))])) t → Steps p.tables e below (s₁.setTop (entryFrame m #[(.int p0), (.int p1), (.int p2), (.int p3)] maxLocals)) t := fun t k => pre561 t (st562.trans k)
          have pre564 : ∀ t, Steps p.tables e below (T562.setTop (mkF m 301 #[.val (.int p0), .val (.int p1), .val (.int p2), .val (.int p3), .val (.int v182), .val (.int v188), .val (.int v191), .val (.int v197), .val (.int v200), .val (.int v206), .val (.int v209), .val (.int v215), .val (.ref b218), .val (.ref b304), .val (.ref b480), .val (.int v524), .val (.int v554)] [(.int v554), (.int (f11_y v188 v197 v206 v182 v191 v200 o398 o258))])) t → Steps p.tables e below (s₁.setTop (entryFrame m #[(.int p0), (.int p1), (.int p2), (.int p3)] maxLocals)) t := by
            intro t k
            refine pre563 t ?_
            show Steps p.tables e below (T562.setTop (mkF m 299 #[.val (.int p0), .val (.int p1), .val (.int p2), .val (.int p3), .val (.int v182), .val (.int v188), .val (.int v191), .val (.int v197), .val (.int v200), .val (.int v206), .val (.int v209), .val (.int v215), .val (.ref b218), .val (.ref b304), .val (.ref b480), .val (.int v524), .val (.int v554)] [(.int (f11_y v188 v197 v206 v182 v191 v200 o398 o258))])) _
            refine XS.iload X562.here hx rfl (hb hby at_299) rfl ?_
            exact k
          by_cases hc301_565 : (f11_y v188 v197 v206 v182 v191 v200 o398 o258) = v554
          · obtain ⟨fs, hr, hrun, hended, hRW⟩ := X562.leaveW (s := s) (vm₁ := T440.vm) hS440 (by rw [e562]; exact hk480) (v := some (.int (1 : Int32))) (fun h => by rw [Bd.returns] at h; cases h)
            refine ⟨_, _, pre564 _ ?_, hrun, hended, _, _, rfl, ?_, hRW.1, hRW.2.1, hRW.2.2.1, hRW.2.2.2.mono (by decide) (by decide)⟩
            · show Steps p.tables e below (T562.setTop (mkF m 301 #[.val (.int p0), .val (.int p1), .val (.int p2), .val (.int p3), .val (.int v182), .val (.int v188), .val (.int v191), .val (.int v197), .val (.int v200), .val (.int v206), .val (.int v209), .val (.int v215), .val (.ref b218), .val (.ref b304), .val (.ref b480), .val (.int v524), .val (.int v554)] [(.int v554), (.int (f11_y v188 v197 v206 v182 v191 v200 o398 o258))])) _
              refine XS.icmpNo X562.here hx rfl (hb hby at_301) rfl (teq hc301_565).2 ?_
              refine XS.iconst X562.here hx rfl (hb hby at_304) ?_
              refine XS.goto X562.here hx rfl (pc0 := 305) (pc' := 309) rfl (hb hby at_305) (by decide) (by decide) ?_
              exact retN X562 hx (t := .boolean) Bd.returns (by simp) (hb hby at_309) hr
            · show Q0 Z p0 p1 p2 p3 gc1 s_SEND s_RECEIVE h0 n0 _ T562.heap _
              rw [e562]
              exact ⟨rfl, N562⟩
          · have pre566 : ∀ t, Steps p.tables e below (T562.setTop (mkF m 309 #[.val (.int p0), .val (.int p1), .val (.int p2), .val (.int p3), .val (.int v182), .val (.int v188), .val (.int v191), .val (.int v197), .val (.int v200), .val (.int v206), .val (.int v209), .val (.int v215), .val (.ref b218), .val (.ref b304), .val (.ref b480), .val (.int v524), .val (.int v554)] [(.int (0 : Int32))])) t → Steps p.tables e below (s₁.setTop (entryFrame m #[(.int p0), (.int p1), (.int p2), (.int p3)] maxLocals)) t := by
              intro t k
              refine pre564 t ?_
              show Steps p.tables e below (T562.setTop (mkF m 301 #[.val (.int p0), .val (.int p1), .val (.int p2), .val (.int p3), .val (.int v182), .val (.int v188), .val (.int v191), .val (.int v197), .val (.int v200), .val (.int v206), .val (.int v209), .val (.int v215), .val (.ref b218), .val (.ref b304), .val (.ref b480), .val (.int v524), .val (.int v554)] [(.int v554), (.int (f11_y v188 v197 v206 v182 v191 v200 o398 o258))])) _
              refine XS.icmpYes X562.here hx rfl (pc0 := 301) (pc' := 308) rfl (hb hby at_301) rfl (feq hc301_565).2 (by decide) (by decide) ?_
              refine XS.iconst X562.here hx rfl (hb hby at_308) ?_
              exact k
            exact (own_leaf1 hne P5 hv182 hv188 hv191 hv197 hv200 hv206 hv209 hv215 ho258 ho398 hv524 hc191_527 hc205_532 hc226_537 hv554 hc289_560 hc301_565).elim
        · have pre567 : ∀ t, Steps p.tables e below (T557.setTop (mkF m 309 #[.val (.int p0), .val (.int p1), .val (.int p2), .val (.int p3), .val (.int v182), .val (.int v188), .val (.int v191), .val (.int v197), .val (.int v200), .val (.int v206), .val (.int v209), .val (.int v215), .val (.ref b218), .val (.ref b304), .val (.ref b480), .val (.int v524), .val (.int v554)] [(.int (0 : Int32))])) t → Steps p.tables e below (s₁.setTop (entryFrame m #[(.int p0), (.int p1), (.int p2), (.int p3)] maxLocals)) t := by
            intro t k
            refine pre559 t ?_
            show Steps p.tables e below (T557.setTop (mkF m 289 #[.val (.int p0), .val (.int p1), .val (.int p2), .val (.int p3), .val (.int v182), .val (.int v188), .val (.int v191), .val (.int v197), .val (.int v200), .val (.int v206), .val (.int v209), .val (.int v215), .val (.ref b218), .val (.ref b304), .val (.ref b480), .val (.int v524), .val (.int v554)] [(.int v554), (.int (f11_y v182 v191 v200 v188 v197 v206 o258 o398))])) _
            refine XS.icmpYes X557.here hx rfl (pc0 := 289) (pc' := 308) rfl (hb hby at_289) rfl (feq hc289_560).2 (by decide) (by decide) ?_
            refine XS.iconst X557.here hx rfl (hb hby at_308) ?_
            exact k
          exact (own_leaf2 hne P5 hv182 hv188 hv191 hv197 hv200 hv206 hv209 hv215 ho258 ho398 hv524 hc191_527 hc205_532 hc226_537 hv554 hc289_560).elim
set_option maxRecDepth 65536 in
set_option maxHeartbeats 40000000 in
theorem comes_1 {Post : Tables → Env → Array Value → State → Outcome → State → Prop} (hpost : ∀ tb e args s v u, (limb_1_1.after args s (.returned v) u = true ∧ limb_1_2.after args s (.returned v) u = true ∧ True) → ReturnedEndW s (.returned v) u (Jvm.fieldLocs frame_1_writes args s ++ Jvm.arrayLocs frame_1_arrays args s ++ Jvm.staticLocs frame_1_statics s) 64 4288 → Post tb e args s (.returned v) u) :
    ArmFor flags0 classFile x code maxLocals ret World_1 tables_1 room_1 Calls_1 rest_1 Pre_1 Post := by
  intro l hfl _ _ p e ha hc hk s m args below hf hA hF happ hP
  obtain ⟨hcalls, hrest, hpre⟩ := hP
  obtain ⟨-, -, -, hnamed, -, -, -, hat⟩ := (Spec.applies_iff hf).mp happ
  obtain ⟨hg, hn⟩ := and_e (Cond.before_iff.mp (show (Jvm.Cond.and given_1 narrow_1).before args s = true from hpre))
  obtain ⟨hcount, hg0⟩ := and_e hg
  obtain ⟨ha0, hg1⟩ := and_e hg0
  obtain ⟨ha1, hg2⟩ := and_e hg1
  obtain ⟨ha2, hg3⟩ := and_e hg2
  have ha3 := hg3
  obtain ⟨w0, w1, w2, w3, rfl⟩ : ∃ w0 w1 w2 w3 : Value, args = #[w0, w1, w2, w3] := by
    have hs : args.size = 4 := by simpa [Cond.value, given_1] using hcount
    obtain ⟨L⟩ := args
    match L, hs with
    | [w0, w1, w2, w3], _ => exact ⟨w0, w1, w2, w3, rfl⟩
  have hw := fun d (hd : d ∈ tables_1) => atoms_spec (ws := Jvm.Cond.code x code maxLocals ret :: tables_1) hat d (List.mem_cons_of_mem _ hd)
  have hfit : Fit s := fun {y c} hc i hi => by
    obtain ⟨ha, rfl⟩ := Array.getElem?_eq_some_iff.mp hc
    have q := List.all_eq_true.mp ((Array.all_eq_true_iff_forall_mem.mp hF) _ (Array.getElem_mem ha)) i (List.mem_range.mpr hi)
    simpa [Array.getElem?_eq_getElem hi] using q
  obtain ⟨hsets, hown0⟩ := atoms_of _ (rest_1_c_eq ▸ (show rest_1_c.before _ s = true from hrest))
  have hr0 := Cond.before_iff.mp hown0
  obtain ⟨i0, ei0⟩ := is_v ha0
  obtain rfl : w0 = (.int i0) := Option.some.inj ei0
  obtain ⟨i1, ei1⟩ := is_v ha1
  obtain rfl : w1 = (.int i1) := Option.some.inj ei1
  obtain ⟨i2, ei2⟩ := is_v ha2
  obtain rfl : w2 = (.int i2) := Option.some.inj ei2
  obtain ⟨i3, ei3⟩ := is_v ha3
  obtain rfl : w3 = (.int i3) := Option.some.inj ei3
  obtain ⟨hn1a, hn1b⟩ := and_e hn
  obtain ⟨s_RECEIVE, hs_RECEIVE⟩ := exa_v hn1a
  have S_RECEIVE := Sta.start hs_RECEIVE (Or.inr ⟨(hw _ (List.mem_of_getElem? (i := 41) rfl)), (hw _ (List.mem_of_getElem? (i := 42) rfl))⟩)
  have E_s_RECEIVE := Exa.start hs_RECEIVE hn1a
  obtain ⟨hn2a, hn2b⟩ := and_e hn1b
  obtain ⟨s_SEND, hs_SEND⟩ := exa_v hn2a
  have S_SEND := Sta.start hs_SEND (Or.inr ⟨(hw _ (List.mem_of_getElem? (i := 41) rfl)), (hw _ (List.mem_of_getElem? (i := 86) rfl))⟩)
  have E_s_SEND := Exa.start hs_SEND hn2a
  obtain ⟨hn3a, hn3b⟩ := and_e hn2b
  have F_ordinal_s_SEND := Fld.start ((fld_at hs_SEND).symm.trans (own_eqI hn3a))
  have F_ordinal_s_RECEIVE := Fld.start ((fld_at hs_RECEIVE).symm.trans (own_eqI hn3b))
  have hj0 := hsets _ (List.mem_of_getElem? (i := 0) rfl)
  have hj1 := Cond.before_iff.mp (hsets _ (List.mem_of_getElem? (i := 1) rfl))
  have hj2 := Cond.before_iff.mp (hsets _ (List.mem_of_getElem? (i := 2) rfl))
  obtain ⟨gc1, hG1⟩ := is_v hj1
  have S1 := Sta.start hG1 (Or.inl hj0)
  have P5 := own_neI hG1 hj2
  have hne : s_SEND ≠ s_RECEIVE := by
    intro q
    have q0 := (fld_at hs_SEND).symm.trans (own_eqI hn3a)
    have q1 := (fld_at hs_RECEIVE).symm.trans (own_eqI hn3b)
    rw [q] at q0
    exact absurd (Value.int.inj (Option.some.inj (q0.symm.trans q1))) (by decide)
  obtain ⟨n, o, h1, h2, h3, _, L, rfl, ⟨rfl, N⟩, hq⟩ := rm0 l s _ hw tables_1 i0 i1 i2 i3 gc1 s_SEND s_RECEIVE s.heap s.heap.size (Nat.le_refl _) P5 hne S1 S_SEND S_RECEIVE E_s_SEND E_s_RECEIVE p e ha hc hk s m _ below hf ((Spec.applies_iff_loose hf).mp happ).1 ⟨rfl, State.Warmed39.refl s, rfl⟩ trivial
  refine ⟨n, _, h1, h2, h3, hpost _ _ _ _ _ _ ⟨Cond.after_iff.mpr rfl, Cond.after_iff.mpr (eq_i res_at (Term.int_eval (1)) rfl), trivial⟩ ⟨hq.1, hq.2.1, hq.2.2.1, (hq.2.2.2.sift fun y hy => Or.inr (N y hy)).mono (by decide) (by decide)⟩⟩
theorem main_1_1 : Claimed_1_1 := comes_1 fun _ _ _ _ _ _ h hF => ⟨h.1, hF⟩
theorem main_1_2 : Claimed_1_2 := comes_1 fun _ _ _ _ _ _ h hF => ⟨h.2.1, hF⟩
end Jvm.Pilot.@@N@@
namespace Jvm.Pilot.@@N@@
open Jvm Jvm.ClassFile Sem Op Lib Jvm.Free Jvm.Stand Jvm.Pilot.@@N@@.Jvm.D
/-! MADE BY PROGRAM (witnessworld.py) out of the Statement's table words and the real class files: 23 classes; the members and pool entries that the words name. The judged class is class 1, her method 3. -/
namespace start1
open Jvm.ClassFile
def u (s : String) : CpInfo := .utf8 (stringToUtf16 s)
/-- a pool by its gaps: so many unusable entries, then the entry; so many at the end -/
def gap : Nat → List CpInfo → List CpInfo
  | 0, r => r
  | n + 1, r => .unusable :: gap n r
def poolList (es : List (Nat × CpInfo)) (last : Nat) : List CpInfo := es.foldr (fun e r => gap e.1 (e.2 :: r)) (gap last [])
def pool (es : List (Nat × CpInfo)) (last : Nat) : Array CpInfo := ⟨poolList es last⟩
def fileOf (pool : Array CpInfo) (this : Nat) (attrs : Array Attribute := #[]) (ms : Array MethodInfo := #[]) (fl : Nat := 33) (sup : Nat := 0) (ifs : Array Nat := #[]) (fds : Array FieldInfo := #[]) : ClassFile where
  minorVersion := 0
  majorVersion := 65
  constantPool := pool
  accessFlags := fl
  thisClass := this
  superClass := sup
  interfaces := ifs
  fields := fds
  methods := ms
  attributes := attrs
def plain (name : String) (sup : Option ClassId) : Class where
  name := name
  kind := .ordinary
  loader := none
  accessFlags := 33
  super := sup
  interfaces := #[]
  cf := none
  fields := #[]
  methods := #[]
  instanceTypes := #[]
  staticTypes := #[]
  resolved := #[]
  callSites := []
  init := .initialized
  statics := none
  mirror := none

def pool0 : Array CpInfo := pool [(5, u "<init>"), (0, u "()V"), (1, .class_ 10), (1, u "java/lang/Object")] 113

def k0c0 : Code := { maxStack := 0, maxLocals := 1, code := object_method_1_code, exceptionTable := #[], attributes := #[] }
def k0m0 : Method := { name := "<init>", desc := "()V", sig := { parameters := [], returnType := none }, accessFlags := 1, code := some k0c0 }
/-- java/lang/Object -/
def k0 : Class := { plain "java/lang/Object" none with
  accessFlags := 33
  interfaces := #[]
  cf := some (fileOf pool0 8 #[] #[{ accessFlags := 1, nameIndex := 5, descriptorIndex := 6, attributes := #[] }] 33 0 #[] #[])
  fields := #[]
  methods := #[k0m0]
  instanceTypes := #[]
  staticTypes := #[]
  resolved := Array.replicate 124 none
  statics := none }

def pool1 : Array CpInfo := pool [(2, .class_ 4), (1, u "java/lang/Object"), (0, u "<init>"), (0, u "()V"), (0, .class_ 8), (0, u "java/lang/String"), (0, .methodref 7 10), (0, .nameAndType 5 11), (0, u "([C)V"), (0, .fieldref 13 14), (0, .class_ 15), (0, .nameAndType 16 17), (0, u "com/example/oversee/oversee/model/Direction"), (0, u "SEND"), (0, u "Lcom/example/oversee/oversee/model/Direction;"), (0, .fieldref 13 19), (0, .nameAndType 20 17), (0, u "RECEIVE"), (0, .class_ 22), (0, u "com/example/oversee/oversee/model/Action"), (0, .methodref 24 25), (0, .class_ 26), (0, .nameAndType 27 28), (0, u "com/example/oversee/oversee/model/ActionEqualsPinLaw"), (0, u "str"), (0, u "(I)Ljava/lang/String;"), (0, .methodref 24 30), (0, .nameAndType 31 32), (0, u "dir"), (0, u "(I)Lcom/example/oversee/oversee/model/Direction;"), (0, .methodref 21 34), (0, .nameAndType 5 35), (0, u "(Ljava/lang/String;Ljava/lang/String;Lcom/example/oversee/oversee/model/Direction;Ljava/lang/String;)V"), (0, .methodref 21 37), (0, .nameAndType 38 39), (0, u "equals"), (0, u "(Ljava/lang/Object;)Z"), (3, u "law"), (0, u "(IIII)Z")] 2

def k1m0 : Method := { name := "<init>", desc := "()V", sig := { parameters := [], returnType := none }, accessFlags := 1, code := none }
def k1c1 : Code := { maxStack := 4, maxLocals := 2, code := method_2_code, exceptionTable := #[], attributes := #[] }
def k1m1 : Method := { name := "str", desc := "(I)Ljava/lang/String;", sig := { parameters := [.int], returnType := some (.object "java/lang/String") }, accessFlags := 10, code := some k1c1 }
def k1c2 : Code := { maxStack := 2, maxLocals := 1, code := method_3_code, exceptionTable := #[], attributes := #[] }
def k1m2 : Method := { name := "dir", desc := "(I)Lcom/example/oversee/oversee/model/Direction;", sig := { parameters := [.int], returnType := some (.object "com/example/oversee/oversee/model/Direction") }, accessFlags := 10, code := some k1c2 }
def k1c3 : Code := { maxStack := 6, maxLocals := 17, code := code, exceptionTable := #[], attributes := #[] }
def k1m3 : Method := { name := "law", desc := "(IIII)Z", sig := { parameters := [.int, .int, .int, .int], returnType := some .boolean }, accessFlags := 9, code := some k1c3 }
/-- com/example/oversee/oversee/model/ActionEqualsPinLaw -/
def k1 : Class := { plain "com/example/oversee/oversee/model/ActionEqualsPinLaw" (some 0) with
  accessFlags := 49
  interfaces := #[]
  cf := some (fileOf pool1 24 #[] #[{ accessFlags := 1, nameIndex := 5, descriptorIndex := 6, attributes := #[] }, { accessFlags := 10, nameIndex := 27, descriptorIndex := 28, attributes := #[] }, { accessFlags := 10, nameIndex := 31, descriptorIndex := 32, attributes := #[] }, { accessFlags := 9, nameIndex := 43, descriptorIndex := 44, attributes := #[] }] 49 2 #[] #[])
  fields := #[]
  methods := #[k1m0, k1m1, k1m2, k1m3]
  instanceTypes := #[]
  staticTypes := #[]
  resolved := Array.replicate 47 none
  statics := none }

def pool2 : Array CpInfo := pool [(1, .methodref 2 3), (0, .class_ 4), (0, .nameAndType 5 6), (0, u "java/lang/Object"), (0, u "<init>"), (0, u "()V"), (0, .string 8), (0, u "sender"), (0, .methodref 10 11), (0, .class_ 12), (0, .nameAndType 13 14), (0, u "java/util/Objects"), (0, u "requireNonNull"), (0, u "(Ljava/lang/Object;Ljava/lang/String;)Ljava/lang/Object;"), (0, .class_ 16), (0, u "java/lang/String"), (0, .fieldref 18 19), (0, .class_ 20), (0, .nameAndType 8 21), (0, u "com/example/oversee/oversee/model/Action"), (0, u "Ljava/lang/String;"), (0, .string 23), (0, u "receiver"), (0, .fieldref 18 25), (0, .nameAndType 23 21), (0, .string 27), (0, u "direction"), (0, .class_ 29), (0, u "com/example/oversee/oversee/model/Direction"), (0, .fieldref 18 31), (0, .nameAndType 27 32), (0, u "Lcom/example/oversee/oversee/model/Direction;"), (0, .string 34), (0, u "message"), (0, .fieldref 18 36), (0, .nameAndType 34 21), (3, .methodref 15 41), (0, .nameAndType 42 43), (0, u "equals"), (0, u "(Ljava/lang/Object;)Z"), (16, u "(Ljava/lang/String;Ljava/lang/String;Lcom/example/oversee/oversee/model/Direction;Ljava/lang/String;)V")] 14

def k2c0 : Code := { maxStack := 3, maxLocals := 5, code := prog_16_method_1_code, exceptionTable := #[], attributes := #[] }
def k2m0 : Method := { name := "<init>", desc := "(Ljava/lang/String;Ljava/lang/String;Lcom/example/oversee/oversee/model/Direction;Ljava/lang/String;)V", sig := { parameters := [(.object "java/lang/String"), (.object "java/lang/String"), (.object "com/example/oversee/oversee/model/Direction"), (.object "java/lang/String")], returnType := none }, accessFlags := 1, code := some k2c0 }
def k2c1 : Code := { maxStack := 2, maxLocals := 3, code := prog_16_method_7_code, exceptionTable := #[], attributes := #[] }
def k2m1 : Method := { name := "equals", desc := "(Ljava/lang/Object;)Z", sig := { parameters := [(.object "java/lang/Object")], returnType := some .boolean }, accessFlags := 1, code := some k2c1 }
/-- com/example/oversee/oversee/model/Action -/
def k2 : Class := { plain "com/example/oversee/oversee/model/Action" (some 0) with
  accessFlags := 49
  interfaces := #[]
  cf := some (fileOf pool2 18 #[] #[{ accessFlags := 1, nameIndex := 5, descriptorIndex := 60, attributes := #[] }, { accessFlags := 1, nameIndex := 42, descriptorIndex := 43, attributes := #[] }] 49 2 #[] #[{ accessFlags := 18, nameIndex := 8, descriptorIndex := 21, attributes := #[] }, { accessFlags := 18, nameIndex := 23, descriptorIndex := 21, attributes := #[] }, { accessFlags := 18, nameIndex := 27, descriptorIndex := 32, attributes := #[] }, { accessFlags := 18, nameIndex := 34, descriptorIndex := 21, attributes := #[] }])
  fields := #[{ name := "sender", type := (.object "java/lang/String"), accessFlags := 18, slot := 0, constantValue := 0 }, { name := "receiver", type := (.object "java/lang/String"), accessFlags := 18, slot := 1, constantValue := 0 }, { name := "direction", type := (.object "com/example/oversee/oversee/model/Direction"), accessFlags := 18, slot := 2, constantValue := 0 }, { name := "message", type := (.object "java/lang/String"), accessFlags := 18, slot := 3, constantValue := 0 }]
  methods := #[k2m0, k2m1]
  instanceTypes := #[(.object "java/lang/String"), (.object "java/lang/String"), (.object "com/example/oversee/oversee/model/Direction"), (.object "java/lang/String")]
  staticTypes := #[]
  resolved := Array.replicate 75 none
  statics := none }

def pool3 : Array CpInfo := pool [(1, .class_ 2), (0, u "java/io/Serializable"), (0, .class_ 4), (0, u "java/lang/Object")] 2

/-- java/io/Serializable -/
def k3 : Class := { plain "java/io/Serializable" (some 0) with
  accessFlags := 1537
  interfaces := #[]
  cf := some (fileOf pool3 1 #[] #[] 1537 3 #[] #[])
  fields := #[]
  methods := #[]
  instanceTypes := #[]
  staticTypes := #[]
  resolved := Array.replicate 7 none
  statics := none }

def pool4 : Array CpInfo := pool [(1, .class_ 2), (0, u "java/lang/Comparable"), (0, .class_ 4), (0, u "java/lang/Object")] 7

/-- java/lang/Comparable -/
def k4 : Class := { plain "java/lang/Comparable" (some 0) with
  accessFlags := 1537
  interfaces := #[]
  cf := some (fileOf pool4 1 #[] #[] 1537 3 #[] #[])
  fields := #[]
  methods := #[]
  instanceTypes := #[]
  staticTypes := #[]
  resolved := Array.replicate 12 none
  statics := none }

def pool5 : Array CpInfo := pool [(2, .class_ 4), (1, u "java/lang/CharSequence"), (42, .class_ 48), (0, u "java/lang/CharSequence$1CodePointIterator"), (10, .class_ 60), (0, u "java/lang/CharSequence$1CharIterator"), (5, .class_ 67), (0, u "java/lang/Object")] 63

/-- java/lang/CharSequence -/
def k5 : Class := { plain "java/lang/CharSequence" (some 0) with
  accessFlags := 1537
  interfaces := #[]
  cf := some (fileOf pool5 2 #[.nestMembers #[47, 59]] #[] 1537 66 #[] #[])
  fields := #[]
  methods := #[]
  instanceTypes := #[]
  staticTypes := #[]
  resolved := Array.replicate 131 none
  statics := none }

def pool6 : Array CpInfo := pool [(1, .class_ 2), (0, u "java/lang/constant/Constable"), (0, .class_ 4), (0, u "java/lang/Object")] 6

/-- java/lang/constant/Constable -/
def k6 : Class := { plain "java/lang/constant/Constable" (some 0) with
  accessFlags := 1537
  interfaces := #[]
  cf := some (fileOf pool6 1 #[] #[] 1537 3 #[] #[])
  fields := #[]
  methods := #[]
  instanceTypes := #[]
  staticTypes := #[]
  resolved := Array.replicate 11 none
  statics := none }

def pool7 : Array CpInfo := pool [(1, .class_ 2), (0, u "java/lang/constant/ConstantDesc"), (0, .class_ 4), (0, u "java/lang/Object")] 32

/-- java/lang/constant/ConstantDesc -/
def k7 : Class := { plain "java/lang/constant/ConstantDesc" (some 0) with
  accessFlags := 1537
  interfaces := #[]
  cf := some (fileOf pool7 1 #[] #[] 1537 3 #[] #[])
  fields := #[]
  methods := #[]
  instanceTypes := #[]
  staticTypes := #[]
  resolved := Array.replicate 37 none
  statics := none }

def pool8 : Array CpInfo := pool [(1, .methodref 2 3), (0, .class_ 4), (0, .nameAndType 5 6), (0, u "java/lang/Object"), (0, u "<init>"), (0, u "()V"), (2, .fieldref 10 11), (0, .class_ 12), (0, .nameAndType 13 14), (0, u "java/lang/String"), (0, u "value"), (0, u "[B"), (0, .fieldref 10 16), (0, .nameAndType 17 18), (0, u "coder"), (0, u "B"), (2, u "hash"), (0, u "I"), (2, u "hashIsZero"), (0, u "Z"), (0, .methodref 10 28), (0, .nameAndType 5 29), (0, u "([CIILjava/lang/Void;)V"), (8, .fieldref 10 39), (0, .nameAndType 40 26), (0, u "COMPACT_STRINGS"), (1, .class_ 44), (1, u "java/lang/StringUTF16"), (0, u "compress"), (1, .methodref 42 48), (0, .nameAndType 49 50), (0, u "coderFromArrayLen"), (0, u "([BI)B"), (56, .class_ 109), (1, u "java/lang/StringLatin1"), (67, .methodref 42 178), (0, .nameAndType 45 179), (0, u "([CII)[B"), (361, .methodref 107 542), (0, .nameAndType 543 544), (0, u "equals"), (0, u "([B[B)Z"), (28, u "(Ljava/lang/Object;)Z"), (1, .class_ 576), (0, u "java/lang/CharSequence"), (22, u "CASE_INSENSITIVE_ORDER"), (0, u "Ljava/util/Comparator;"), (409, u "([C)V"), (90, u "serialPersistentFields"), (0, u "[Ljava/io/ObjectStreamField;"), (0, .class_ 1104), (0, u "java/lang/String$CaseInsensitiveComparator"), (1, .class_ 1107), (0, u "java/io/Serializable"), (0, .class_ 1109), (0, u "java/lang/Comparable"), (0, .class_ 1111), (0, u "java/lang/constant/Constable"), (0, .class_ 1113), (0, u "java/lang/constant/ConstantDesc"), (2, u "serialVersionUID"), (0, u "J"), (3, u "REPL"), (0, u "C"), (2, u "LATIN1"), (1, u "UTF16")] 323

def k8m0 : Method := { name := "<init>", desc := "()V", sig := { parameters := [], returnType := none }, accessFlags := 1, code := none }
def k8c1 : Code := { maxStack := 5, maxLocals := 2, code := jdk_42_method_3_code, exceptionTable := #[], attributes := #[] }
def k8m1 : Method := { name := "<init>", desc := "([C)V", sig := { parameters := [(.array .char)], returnType := none }, accessFlags := 1, code := some k8c1 }
def k8c2 : Code := { maxStack := 2, maxLocals := 3, code := jdk_42_method_66_code, exceptionTable := #[], attributes := #[] }
def k8m2 : Method := { name := "equals", desc := "(Ljava/lang/Object;)Z", sig := { parameters := [(.object "java/lang/Object")], returnType := some .boolean }, accessFlags := 1, code := some k8c2 }
def k8c3 : Code := { maxStack := 4, maxLocals := 6, code := jdk_42_method_149_code, exceptionTable := #[], attributes := #[] }
def k8m3 : Method := { name := "<init>", desc := "([CIILjava/lang/Void;)V", sig := { parameters := [(.array .char), .int, .int, (.object "java/lang/Void")], returnType := none }, accessFlags := 2, code := some k8c3 }
/-- java/lang/String -/
def k8 : Class := { plain "java/lang/String" (some 0) with
  accessFlags := 49
  interfaces := #[3, 4, 5, 6, 7]
  cf := some (fileOf pool8 10 #[.nestMembers #[1103]] #[{ accessFlags := 1, nameIndex := 5, descriptorIndex := 6, attributes := #[] }, { accessFlags := 1, nameIndex := 5, descriptorIndex := 1010, attributes := #[] }, { accessFlags := 1, nameIndex := 543, descriptorIndex := 573, attributes := #[] }, { accessFlags := 2, nameIndex := 5, descriptorIndex := 29, attributes := #[] }] 49 2 #[1106, 1108, 575, 1110, 1112] #[{ accessFlags := 18, nameIndex := 13, descriptorIndex := 14, attributes := #[] }, { accessFlags := 18, nameIndex := 17, descriptorIndex := 18, attributes := #[] }, { accessFlags := 2, nameIndex := 21, descriptorIndex := 22, attributes := #[] }, { accessFlags := 2, nameIndex := 25, descriptorIndex := 26, attributes := #[] }, { accessFlags := 26, nameIndex := 1116, descriptorIndex := 1117, attributes := #[] }, { accessFlags := 24, nameIndex := 40, descriptorIndex := 26, attributes := #[] }, { accessFlags := 26, nameIndex := 1101, descriptorIndex := 1102, attributes := #[] }, { accessFlags := 26, nameIndex := 1121, descriptorIndex := 1122, attributes := #[] }, { accessFlags := 25, nameIndex := 599, descriptorIndex := 600, attributes := #[] }, { accessFlags := 24, nameIndex := 1125, descriptorIndex := 18, attributes := #[] }, { accessFlags := 24, nameIndex := 1127, descriptorIndex := 18, attributes := #[] }])
  fields := #[{ name := "value", type := (.array .byte), accessFlags := 18, slot := 0, constantValue := 0 }, { name := "coder", type := .byte, accessFlags := 18, slot := 1, constantValue := 0 }, { name := "hash", type := .int, accessFlags := 2, slot := 2, constantValue := 0 }, { name := "hashIsZero", type := .boolean, accessFlags := 2, slot := 3, constantValue := 0 }, { name := "serialVersionUID", type := .long, accessFlags := 26, slot := 0, constantValue := 0 }, { name := "COMPACT_STRINGS", type := .boolean, accessFlags := 24, slot := 1, constantValue := 0 }, { name := "serialPersistentFields", type := (.array (.object "java/io/ObjectStreamField")), accessFlags := 26, slot := 2, constantValue := 0 }, { name := "REPL", type := .char, accessFlags := 26, slot := 3, constantValue := 0 }, { name := "CASE_INSENSITIVE_ORDER", type := (.object "java/util/Comparator"), accessFlags := 25, slot := 4, constantValue := 0 }, { name := "LATIN1", type := .byte, accessFlags := 24, slot := 5, constantValue := 0 }, { name := "UTF16", type := .byte, accessFlags := 24, slot := 6, constantValue := 0 }]
  methods := #[k8m0, k8m1, k8m2, k8m3]
  instanceTypes := #[(.array .byte), .byte, .int, .boolean]
  staticTypes := #[.long, .boolean, (.array (.object "java/io/ObjectStreamField")), .char, (.object "java/util/Comparator"), .byte, .byte]
  resolved := Array.replicate 1451 none
  statics := some 0 }

def pool9 : Array CpInfo := pool [(6, .class_ 8), (1, u "java/lang/Object"), (0, u "<init>"), (0, u "()V"), (1, .class_ 14), (1, u "java/lang/StringUTF16"), (31, u "$assertionsDisabled"), (0, u "Z"), (13, u "HI_BYTE_SHIFT"), (0, u "I"), (2, u "LO_BYTE_SHIFT"), (49, .methodref 12 116), (0, .nameAndType 117 118), (0, u "compress"), (0, u "([CI[BII)I"), (3, u "([CII)[B"), (138, u "coderFromArrayLen"), (0, u "([BI)B"), (106, .class_ 371), (1, u "java/lang/StringUTF16$LinesSpliterator"), (58, u "MAX_LENGTH"), (196, .class_ 628), (0, u "java/lang/StringUTF16$CodePointsSpliterator"), (0, .class_ 630), (0, u "java/lang/StringUTF16$CharsSpliterator")] 4

def k9m0 : Method := { name := "<init>", desc := "()V", sig := { parameters := [], returnType := none }, accessFlags := 0, code := none }
def k9c1 : Code := { maxStack := 2, maxLocals := 2, code := jdk_52_method_15_code, exceptionTable := #[], attributes := #[] }
def k9m1 : Method := { name := "coderFromArrayLen", desc := "([BI)B", sig := { parameters := [(.array .byte), .int], returnType := some .byte }, accessFlags := 8, code := some k9c1 }
def k9c2 : Code := { maxStack := 5, maxLocals := 6, code := jdk_52_method_16_code, exceptionTable := #[], attributes := #[] }
def k9m2 : Method := { name := "compress", desc := "([CII)[B", sig := { parameters := [(.array .char), .int, .int], returnType := some (.array .byte) }, accessFlags := 9, code := some k9c2 }
def k9c3 : Code := { maxStack := 3, maxLocals := 7, code := jdk_52_method_21_code, exceptionTable := #[], attributes := #[] }
def k9m3 : Method := { name := "compress", desc := "([CI[BII)I", sig := { parameters := [(.array .char), .int, (.array .byte), .int, .int], returnType := some .int }, accessFlags := 9, code := some k9c3 }
/-- java/lang/StringUTF16 -/
def k9 : Class := { plain "java/lang/StringUTF16" (some 0) with
  accessFlags := 48
  interfaces := #[]
  cf := some (fileOf pool9 12 #[.nestMembers #[627, 629, 369]] #[{ accessFlags := 0, nameIndex := 9, descriptorIndex := 10, attributes := #[] }, { accessFlags := 8, nameIndex := 261, descriptorIndex := 262, attributes := #[] }, { accessFlags := 9, nameIndex := 117, descriptorIndex := 122, attributes := #[] }, { accessFlags := 9, nameIndex := 117, descriptorIndex := 118, attributes := #[] }] 48 6 #[] #[{ accessFlags := 26, nameIndex := 61, descriptorIndex := 62, attributes := #[] }, { accessFlags := 26, nameIndex := 65, descriptorIndex := 62, attributes := #[] }, { accessFlags := 24, nameIndex := 430, descriptorIndex := 62, attributes := #[] }, { accessFlags := 4120, nameIndex := 46, descriptorIndex := 47, attributes := #[] }])
  fields := #[{ name := "HI_BYTE_SHIFT", type := .int, accessFlags := 26, slot := 0, constantValue := 0 }, { name := "LO_BYTE_SHIFT", type := .int, accessFlags := 26, slot := 1, constantValue := 0 }, { name := "MAX_LENGTH", type := .int, accessFlags := 24, slot := 2, constantValue := 0 }, { name := "$assertionsDisabled", type := .boolean, accessFlags := 4120, slot := 3, constantValue := 0 }]
  methods := #[k9m0, k9m1, k9m2, k9m3]
  instanceTypes := #[]
  staticTypes := #[.int, .int, .int, .boolean]
  resolved := Array.replicate 635 none
  statics := none }

def pool10 : Array CpInfo := pool [(2, .class_ 4), (1, u "java/lang/Enum"), (0, u "name"), (0, u "Ljava/lang/String;"), (2, u "ordinal"), (0, u "I"), (1, .class_ 14), (1, u "java/lang/Object"), (4, u "hash"), (86, .class_ 108), (1, u "java/lang/Enum$EnumDesc"), (2, .class_ 112), (0, u "java/lang/constant/Constable"), (0, .class_ 114), (0, u "java/lang/Comparable"), (0, .class_ 116), (0, u "java/io/Serializable")] 87

/-- java/lang/Enum -/
def k10 : Class := { plain "java/lang/Enum" (some 0) with
  accessFlags := 1057
  interfaces := #[6, 4, 3]
  cf := some (fileOf pool10 2 #[.nestMembers #[106]] #[] 1057 12 #[111, 113, 115] #[{ accessFlags := 18, nameIndex := 5, descriptorIndex := 6, attributes := #[] }, { accessFlags := 18, nameIndex := 9, descriptorIndex := 10, attributes := #[] }, { accessFlags := 2, nameIndex := 19, descriptorIndex := 10, attributes := #[] }])
  fields := #[{ name := "name", type := (.object "java/lang/String"), accessFlags := 18, slot := 0, constantValue := 0 }, { name := "ordinal", type := .int, accessFlags := 18, slot := 1, constantValue := 0 }, { name := "hash", type := .int, accessFlags := 2, slot := 2, constantValue := 0 }]
  methods := #[]
  instanceTypes := #[(.object "java/lang/String"), .int, .int]
  staticTypes := #[]
  resolved := Array.replicate 204 none
  statics := none }

def pool11 : Array CpInfo := pool [(1, .class_ 2), (0, u "com/example/oversee/oversee/model/Direction"), (2, u "SEND"), (0, u "Lcom/example/oversee/oversee/model/Direction;"), (2, u "RECEIVE"), (2, u "$VALUES"), (0, u "[Lcom/example/oversee/oversee/model/Direction;"), (6, .class_ 22), (1, u "java/lang/Enum"), (8, u "symbol"), (0, u "Ljava/lang/String;")] 48

/-- com/example/oversee/oversee/model/Direction -/
def k11 : Class := { plain "com/example/oversee/oversee/model/Direction" (some 10) with
  accessFlags := 16433
  interfaces := #[]
  cf := some (fileOf pool11 1 #[] #[] 16433 20 #[] #[{ accessFlags := 16409, nameIndex := 5, descriptorIndex := 6, attributes := #[] }, { accessFlags := 16409, nameIndex := 9, descriptorIndex := 6, attributes := #[] }, { accessFlags := 18, nameIndex := 31, descriptorIndex := 32, attributes := #[] }, { accessFlags := 4122, nameIndex := 12, descriptorIndex := 13, attributes := #[] }])
  fields := #[{ name := "SEND", type := (.object "com/example/oversee/oversee/model/Direction"), accessFlags := 16409, slot := 0, constantValue := 0 }, { name := "RECEIVE", type := (.object "com/example/oversee/oversee/model/Direction"), accessFlags := 16409, slot := 1, constantValue := 0 }, { name := "symbol", type := (.object "java/lang/String"), accessFlags := 18, slot := 3, constantValue := 0 }, { name := "$VALUES", type := (.array (.object "com/example/oversee/oversee/model/Direction")), accessFlags := 4122, slot := 2, constantValue := 0 }]
  methods := #[]
  instanceTypes := #[(.object "java/lang/String"), .int, .int, (.object "java/lang/String")]
  staticTypes := #[(.object "com/example/oversee/oversee/model/Direction"), (.object "com/example/oversee/oversee/model/Direction"), (.array (.object "com/example/oversee/oversee/model/Direction"))]
  resolved := Array.replicate 81 none
  statics := some 1 }

def pool12 : Array CpInfo := pool [(2, .class_ 4), (1, u "java/lang/Object"), (0, u "<init>"), (0, u "()V"), (35, .class_ 44), (1, u "java/util/Objects"), (0, u "requireNonNull"), (48, u "(Ljava/lang/Object;Ljava/lang/String;)Ljava/lang/Object;")] 89

def k12m0 : Method := { name := "<init>", desc := "()V", sig := { parameters := [], returnType := none }, accessFlags := 2, code := none }
def k12c1 : Code := { maxStack := 3, maxLocals := 2, code := jdk_31_method_11_code, exceptionTable := #[], attributes := #[] }
def k12m1 : Method := { name := "requireNonNull", desc := "(Ljava/lang/Object;Ljava/lang/String;)Ljava/lang/Object;", sig := { parameters := [(.object "java/lang/Object"), (.object "java/lang/String")], returnType := some (.object "java/lang/Object") }, accessFlags := 9, code := some k12c1 }
/-- java/util/Objects -/
def k12 : Class := { plain "java/util/Objects" (some 0) with
  accessFlags := 49
  interfaces := #[]
  cf := some (fileOf pool12 42 #[] #[{ accessFlags := 2, nameIndex := 5, descriptorIndex := 6, attributes := #[] }, { accessFlags := 9, nameIndex := 45, descriptorIndex := 94, attributes := #[] }] 49 2 #[] #[])
  fields := #[]
  methods := #[k12m0, k12m1]
  instanceTypes := #[]
  staticTypes := #[]
  resolved := Array.replicate 184 none
  statics := none }

def pool13 : Array CpInfo := pool [(4, .class_ 6), (1, u "java/lang/Object"), (0, u "<init>"), (0, u "()V"), (5, .class_ 16), (1, u "java/lang/StringLatin1"), (104, u "$assertionsDisabled"), (0, u "Z"), (98, .class_ 223), (1, u "java/lang/StringLatin1$LinesSpliterator"), (57, u "equals"), (0, u "([B[B)Z"), (107, .class_ 391), (0, u "java/lang/StringLatin1$CharsSpliterator")] 3

def k13m0 : Method := { name := "<init>", desc := "()V", sig := { parameters := [], returnType := none }, accessFlags := 0, code := none }
def k13c1 : Code := { maxStack := 3, maxLocals := 3, code := jdk_43_method_13_code, exceptionTable := #[], attributes := #[] }
def k13m1 : Method := { name := "equals", desc := "([B[B)Z", sig := { parameters := [(.array .byte), (.array .byte)], returnType := some .boolean }, accessFlags := 9, code := some k13c1 }
/-- java/lang/StringLatin1 -/
def k13 : Class := { plain "java/lang/StringLatin1" (some 0) with
  accessFlags := 48
  interfaces := #[]
  cf := some (fileOf pool13 14 #[.nestMembers #[390, 221]] #[{ accessFlags := 0, nameIndex := 7, descriptorIndex := 8, attributes := #[] }, { accessFlags := 9, nameIndex := 281, descriptorIndex := 282, attributes := #[] }] 48 4 #[] #[{ accessFlags := 4120, nameIndex := 121, descriptorIndex := 122, attributes := #[] }])
  fields := #[{ name := "$assertionsDisabled", type := .boolean, accessFlags := 4120, slot := 0, constantValue := 0 }]
  methods := #[k13m0, k13m1]
  instanceTypes := #[]
  staticTypes := #[.boolean]
  resolved := Array.replicate 395 none
  statics := none }

def pool14 : Array CpInfo := pool [(2, .class_ 4), (1, u "java/lang/Object"), (0, u "<init>"), (0, u "()V"), (17, .class_ 26), (1, u "jdk/internal/util/Preconditions"), (28, .class_ 56), (0, u "jdk/internal/util/Preconditions$4"), (57, .class_ 115), (0, u "jdk/internal/util/Preconditions$1"), (7, u "SIOOBE_FORMATTER"), (0, u "Ljava/util/function/BiFunction;"), (0, .class_ 126), (0, u "jdk/internal/util/Preconditions$2"), (3, u "AIOOBE_FORMATTER"), (0, .class_ 132), (0, u "jdk/internal/util/Preconditions$3"), (3, u "IOOBE_FORMATTER")] 57

def k14m0 : Method := { name := "<init>", desc := "()V", sig := { parameters := [], returnType := none }, accessFlags := 1, code := none }
/-- jdk/internal/util/Preconditions -/
def k14 : Class := { plain "jdk/internal/util/Preconditions" (some 0) with
  accessFlags := 33
  interfaces := #[]
  cf := some (fileOf pool14 24 #[.nestMembers #[55, 131, 125, 114]] #[{ accessFlags := 1, nameIndex := 5, descriptorIndex := 6, attributes := #[] }] 33 2 #[] #[{ accessFlags := 25, nameIndex := 123, descriptorIndex := 124, attributes := #[] }, { accessFlags := 25, nameIndex := 130, descriptorIndex := 124, attributes := #[] }, { accessFlags := 25, nameIndex := 136, descriptorIndex := 124, attributes := #[] }])
  fields := #[{ name := "SIOOBE_FORMATTER", type := (.object "java/util/function/BiFunction"), accessFlags := 25, slot := 0, constantValue := 0 }, { name := "AIOOBE_FORMATTER", type := (.object "java/util/function/BiFunction"), accessFlags := 25, slot := 1, constantValue := 0 }, { name := "IOOBE_FORMATTER", type := (.object "java/util/function/BiFunction"), accessFlags := 25, slot := 2, constantValue := 0 }]
  methods := #[k14m0]
  instanceTypes := #[]
  staticTypes := #[(.object "java/util/function/BiFunction"), (.object "java/util/function/BiFunction"), (.object "java/util/function/BiFunction")]
  resolved := Array.replicate 194 none
  statics := some 2 }

def pool15 : Array CpInfo := pool [(9, u "<init>"), (6, .class_ 18), (1, u "java/lang/Object"), (0, u "()V"), (1, .class_ 23), (1, u "jdk/internal/util/ArraysSupport"), (0, u "LOG2_ARRAY_LONG_INDEX_SCALE"), (0, u "I"), (2, u "U"), (0, u "Ljdk/internal/misc/Unsafe;"), (8, u "BIG_ENDIAN"), (0, u "Z"), (8, u "LOG2_BYTE_BIT_SIZE"), (4, u "LOG2_ARRAY_INT_INDEX_SCALE"), (54, u "JLA"), (0, u "Ljdk/internal/access/JavaLangAccess;"), (11, u "LOG2_ARRAY_BOOLEAN_INDEX_SCALE"), (9, u "LOG2_ARRAY_BYTE_INDEX_SCALE"), (5, u "LOG2_ARRAY_CHAR_INDEX_SCALE"), (5, u "LOG2_ARRAY_SHORT_INDEX_SCALE"), (18, u "LOG2_ARRAY_FLOAT_INDEX_SCALE"), (24, u "LOG2_ARRAY_DOUBLE_INDEX_SCALE"), (89, u "T_BOOLEAN"), (2, u "T_CHAR"), (1, u "T_FLOAT"), (1, u "T_DOUBLE"), (1, u "T_BYTE"), (1, u "T_SHORT"), (1, u "T_INT"), (1, u "T_LONG"), (1, u "SOFT_MAX_ARRAY_LENGTH")] 83

def k15m0 : Method := { name := "<init>", desc := "()V", sig := { parameters := [], returnType := none }, accessFlags := 2, code := none }
/-- jdk/internal/util/ArraysSupport -/
def k15 : Class := { plain "jdk/internal/util/ArraysSupport" (some 0) with
  accessFlags := 33
  interfaces := #[]
  cf := some (fileOf pool15 21 #[] #[{ accessFlags := 2, nameIndex := 9, descriptorIndex := 19, attributes := #[] }] 33 16 #[] #[{ accessFlags := 24, nameIndex := 28, descriptorIndex := 29, attributes := #[] }, { accessFlags := 26, nameIndex := 38, descriptorIndex := 39, attributes := #[] }, { accessFlags := 25, nameIndex := 121, descriptorIndex := 25, attributes := #[] }, { accessFlags := 25, nameIndex := 131, descriptorIndex := 25, attributes := #[] }, { accessFlags := 25, nameIndex := 137, descriptorIndex := 25, attributes := #[] }, { accessFlags := 25, nameIndex := 143, descriptorIndex := 25, attributes := #[] }, { accessFlags := 25, nameIndex := 53, descriptorIndex := 25, attributes := #[] }, { accessFlags := 25, nameIndex := 24, descriptorIndex := 25, attributes := #[] }, { accessFlags := 25, nameIndex := 162, descriptorIndex := 25, attributes := #[] }, { accessFlags := 25, nameIndex := 187, descriptorIndex := 25, attributes := #[] }, { accessFlags := 26, nameIndex := 48, descriptorIndex := 25, attributes := #[] }, { accessFlags := 25, nameIndex := 277, descriptorIndex := 25, attributes := #[] }, { accessFlags := 25, nameIndex := 280, descriptorIndex := 25, attributes := #[] }, { accessFlags := 25, nameIndex := 282, descriptorIndex := 25, attributes := #[] }, { accessFlags := 25, nameIndex := 284, descriptorIndex := 25, attributes := #[] }, { accessFlags := 25, nameIndex := 286, descriptorIndex := 25, attributes := #[] }, { accessFlags := 25, nameIndex := 288, descriptorIndex := 25, attributes := #[] }, { accessFlags := 25, nameIndex := 290, descriptorIndex := 25, attributes := #[] }, { accessFlags := 25, nameIndex := 292, descriptorIndex := 25, attributes := #[] }, { accessFlags := 26, nameIndex := 108, descriptorIndex := 109, attributes := #[] }, { accessFlags := 25, nameIndex := 294, descriptorIndex := 25, attributes := #[] }])
  fields := #[{ name := "U", type := (.object "jdk/internal/misc/Unsafe"), accessFlags := 24, slot := 0, constantValue := 0 }, { name := "BIG_ENDIAN", type := .boolean, accessFlags := 26, slot := 1, constantValue := 0 }, { name := "LOG2_ARRAY_BOOLEAN_INDEX_SCALE", type := .int, accessFlags := 25, slot := 2, constantValue := 0 }, { name := "LOG2_ARRAY_BYTE_INDEX_SCALE", type := .int, accessFlags := 25, slot := 3, constantValue := 0 }, { name := "LOG2_ARRAY_CHAR_INDEX_SCALE", type := .int, accessFlags := 25, slot := 4, constantValue := 0 }, { name := "LOG2_ARRAY_SHORT_INDEX_SCALE", type := .int, accessFlags := 25, slot := 5, constantValue := 0 }, { name := "LOG2_ARRAY_INT_INDEX_SCALE", type := .int, accessFlags := 25, slot := 6, constantValue := 0 }, { name := "LOG2_ARRAY_LONG_INDEX_SCALE", type := .int, accessFlags := 25, slot := 7, constantValue := 0 }, { name := "LOG2_ARRAY_FLOAT_INDEX_SCALE", type := .int, accessFlags := 25, slot := 8, constantValue := 0 }, { name := "LOG2_ARRAY_DOUBLE_INDEX_SCALE", type := .int, accessFlags := 25, slot := 9, constantValue := 0 }, { name := "LOG2_BYTE_BIT_SIZE", type := .int, accessFlags := 26, slot := 10, constantValue := 0 }, { name := "T_BOOLEAN", type := .int, accessFlags := 25, slot := 11, constantValue := 0 }, { name := "T_CHAR", type := .int, accessFlags := 25, slot := 12, constantValue := 0 }, { name := "T_FLOAT", type := .int, accessFlags := 25, slot := 13, constantValue := 0 }, { name := "T_DOUBLE", type := .int, accessFlags := 25, slot := 14, constantValue := 0 }, { name := "T_BYTE", type := .int, accessFlags := 25, slot := 15, constantValue := 0 }, { name := "T_SHORT", type := .int, accessFlags := 25, slot := 16, constantValue := 0 }, { name := "T_INT", type := .int, accessFlags := 25, slot := 17, constantValue := 0 }, { name := "T_LONG", type := .int, accessFlags := 25, slot := 18, constantValue := 0 }, { name := "JLA", type := (.object "jdk/internal/access/JavaLangAccess"), accessFlags := 26, slot := 19, constantValue := 0 }, { name := "SOFT_MAX_ARRAY_LENGTH", type := .int, accessFlags := 25, slot := 20, constantValue := 0 }]
  methods := #[k15m0]
  instanceTypes := #[]
  staticTypes := #[(.object "jdk/internal/misc/Unsafe"), .boolean, .int, .int, .int, .int, .int, .int, .int, .int, .int, .int, .int, .int, .int, .int, .int, .int, .int, (.object "jdk/internal/access/JavaLangAccess"), .int]
  resolved := Array.replicate 378 none
  statics := none }

def pool16 : Array CpInfo := pool [(1, u "java/lang/Cloneable"), (0, .class_ 1), (0, u "java/lang/Object"), (0, .class_ 3)] 3

/-- java/lang/Cloneable -/
def k16 : Class := { plain "java/lang/Cloneable" (some 0) with
  accessFlags := 1537
  interfaces := #[]
  cf := some (fileOf pool16 2 #[] #[] 1537 4 #[] #[])
  fields := #[]
  methods := #[]
  instanceTypes := #[]
  staticTypes := #[]
  resolved := Array.replicate 8 none
  statics := none }

/-- the primitive byte -/
def k17 : Class := { plain "byte" none with kind := .primitive 'B', accessFlags := 0x411 }
/-- [B -/
def k18 : Class := { plain "[B" (some 0) with kind := .array 17 .byte, interfaces := #[16, 3], accessFlags := 1041 }

/-- the primitive char -/
def k19 : Class := { plain "char" none with kind := .primitive 'C', accessFlags := 0x411 }
/-- [C -/
def k20 : Class := { plain "[C" (some 0) with kind := .array 19 .char, interfaces := #[16, 3], accessFlags := 1041 }

/-- the primitive int -/
def k21 : Class := { plain "int" none with kind := .primitive 'I', accessFlags := 0x411 }
/-- [I -/
def k22 : Class := { plain "[I" (some 0) with kind := .array 21 .int, interfaces := #[16, 3], accessFlags := 1041 }

def heap : Heap := #[{ cls := 8, slots := #[.long 0, .int 1, .null, .int 0, .null, .int 0, .int 0], vm := .statics 8 },
  { cls := 11, slots := #[.ref 3, .ref 4, .null], vm := .statics 11 },
  { cls := 14, slots := #[.null, .null, .null], vm := .statics 14 },
  { cls := 11, slots := #[.null, .int 0, .int 0, .null], vm := .none },
  { cls := 11, slots := #[.null, .int 1, .int 0, .null], vm := .none }]
def classes : Array Class := #[k0, k1, k2, k3, k4, k5, k6, k7, k8, k9, k10, k11, k12, k13, k14, k15, k16, k17, k18, k19, k20, k21, k22]
def interned : List (Array UInt16 × Addr) := []
def slotsUsed : Nat := 21
def theMethod : MethodId := ⟨1, 3⟩
def args0 : Array Value := #[.int 5, .int 7, .int 5, .int 7]
def aboutOver (below : List Frame) : State where
  vm := { classes := classes, interned := interned.toArray }
  heap := heap
  slotsUsed := slotsUsed
  threads := #[{ frames := .invoking theMethod args0 :: below }]
def below0 : List Frame := [.native { method := ⟨0, 0⟩, args := #[] }]
def about1 : State := aboutOver below0
def p0 : Program := .bare "" "" ""
def e0 : Env := launch0.env 0 0 0
theorem w_frames : about1.frames = Frame.invoking theMethod args0 :: below0 := rfl
set_option maxRecDepth 65536 in
theorem w_args : argsFit about1.vm theMethod args0 = true := by decide +kernel
set_option maxRecDepth 65536 in
theorem w_heap : heapFits about1 = true := by decide +kernel
set_option maxRecDepth 65536 in
theorem w_runnable : about1.curStatus? = some .runnable := by decide +kernel
set_option maxRecDepth 65536 in
theorem w_alone : about1.alone = true := by decide +kernel
set_option maxRecDepth 65536 in
theorem w_named : about1.methodNamed? x = some theMethod := by decide +kernel
set_option maxRecDepth 65536 in
theorem w_hears : about1.hears theMethod below0 = true := by decide +kernel
set_option maxRecDepth 65536 in
theorem w_ripe : about1.ripe theMethod args0 below0 = true := by decide +kernel
theorem w_running : about1.status = .running := rfl
set_option maxRecDepth 65536 in
theorem w_room : about1.hasRoom e0.platform room_1 = true :=
  launch0.hasRoom_least _ room_1 (by decide +kernel) (by decide +kernel) (by decide +kernel) (by decide +kernel) (by decide +kernel) (by decide +kernel)
theorem allAtoms_all (ts : List Jvm.Cond) (a : Array Jvm.Value) (st : Jvm.State) : (allAtoms ts).before a st = ts.all (fun c => c.before a st) := by
  induction ts with
  | nil => rfl
  | cons c t ih =>
    show (Jvm.Cond.and c (allAtoms t)).before a st = _
    rw [Jvm.Cond.before_and, ih, List.all_cons]
def words1 : List Jvm.Cond := Jvm.Cond.code x code maxLocals ret :: tables_1
/-- a 'code' word, met by the world's own term for the bytes: nothing is compared byte by byte -/
theorem code_word {y : MethodName} {bytes : ByteArray} {mx : Nat} {rt : Option FieldType} {a : Array Value} {s : State} {m : MethodId} {meth : Method} {c : Code} (h1 : s.methodNamed? y = some m) (h2 : s.vm.method? m = some meth) (h3 : meth.code = some c) (h4 : c.code = bytes)
    (h5 : (c.maxLocals == mx && c.exceptionTable.isEmpty && decide (c.maxStack ≤ mostOperands) && decide (meth.sig.returnType = rt) && !meth.locks && decide (parseMethodDescriptor y.desc = some meth.sig)) = true) : (Jvm.Cond.code y bytes mx rt).before a s = true := by
  simp only [Bool.and_eq_true, beq_iff_eq, Bool.not_eq_true', decide_eq_true_eq] at h5
  obtain ⟨⟨⟨⟨⟨g1, g2⟩, g3⟩, g4⟩, g5⟩, g6⟩ := h5
  simp [Cond.before, Cond.holds, Cond.value, h1, h2, h3, h4, g1, g2, g3, g4, g5, g6]
def isCode : Jvm.Cond → Bool
  | .code _ _ _ _ => true
  | _ => false
theorem all_split {L : List Jvm.Cond} {P : Jvm.Cond → Bool} (h1 : L.all (fun c => isCode c || P c) = true) (h2 : ∀ c ∈ L.filter isCode, P c = true) : L.all P = true := by
  refine List.all_eq_true.mpr fun c hc => ?_
  have h := List.all_eq_true.mp h1 c hc
  rcases Bool.eq_false_or_eq_true (isCode c) with hi | hi
  · exact h2 c (List.mem_filter.mpr ⟨hc, hi⟩)
  · simpa [hi] using h
set_option maxRecDepth 65536 in
theorem w_c0 : (Jvm.Cond.code x code maxLocals ret).before args0 about1 = true := code_word (m := ⟨1, 3⟩) (meth := k1m3) (c := k1c3) (by decide +kernel) rfl rfl rfl (by decide +kernel)
set_option maxRecDepth 65536 in
theorem w_c1 : (Jvm.Cond.code ({ cls := "com/example/oversee/oversee/model/ActionEqualsPinLaw", name := "str", desc := "(I)Ljava/lang/String;" } : Jvm.MethodName) method_2_code (2 : Nat) (Option.some (Jvm.ClassFile.FieldType.object "java/lang/String"))).before args0 about1 = true := code_word (m := ⟨1, 1⟩) (meth := k1m1) (c := k1c1) (by decide +kernel) rfl rfl rfl (by decide +kernel)
set_option maxRecDepth 65536 in
theorem w_c2 : (Jvm.Cond.code ({ cls := "java/lang/String", name := "<init>", desc := "([C)V" } : Jvm.MethodName) jdk_42_method_3_code (2 : Nat) (Option.none : Option Jvm.ClassFile.FieldType)).before args0 about1 = true := code_word (m := ⟨8, 1⟩) (meth := k8m1) (c := k8c1) (by decide +kernel) rfl rfl rfl (by decide +kernel)
set_option maxRecDepth 65536 in
theorem w_c3 : (Jvm.Cond.code ({ cls := "java/lang/String", name := "<init>", desc := "([CIILjava/lang/Void;)V" } : Jvm.MethodName) jdk_42_method_149_code (6 : Nat) (Option.none : Option Jvm.ClassFile.FieldType)).before args0 about1 = true := code_word (m := ⟨8, 3⟩) (meth := k8m3) (c := k8c3) (by decide +kernel) rfl rfl rfl (by decide +kernel)
set_option maxRecDepth 65536 in
theorem w_c4 : (Jvm.Cond.code ({ cls := "java/lang/Object", name := "<init>", desc := "()V" } : Jvm.MethodName) object_method_1_code (1 : Nat) (Option.none : Option Jvm.ClassFile.FieldType)).before args0 about1 = true := code_word (m := ⟨0, 0⟩) (meth := k0m0) (c := k0c0) (by decide +kernel) rfl rfl rfl (by decide +kernel)
set_option maxRecDepth 65536 in
theorem w_c5 : (Jvm.Cond.code ({ cls := "java/lang/StringUTF16", name := "compress", desc := "([CII)[B" } : Jvm.MethodName) jdk_52_method_16_code (6 : Nat) (Option.some (Jvm.ClassFile.FieldType.array Jvm.ClassFile.FieldType.byte))).before args0 about1 = true := code_word (m := ⟨9, 2⟩) (meth := k9m2) (c := k9c2) (by decide +kernel) rfl rfl rfl (by decide +kernel)
set_option maxRecDepth 65536 in
theorem w_c6 : (Jvm.Cond.code ({ cls := "java/lang/StringUTF16", name := "compress", desc := "([CI[BII)I" } : Jvm.MethodName) jdk_52_method_21_code (7 : Nat) (Option.some Jvm.ClassFile.FieldType.int)).before args0 about1 = true := code_word (m := ⟨9, 3⟩) (meth := k9m3) (c := k9c3) (by decide +kernel) rfl rfl rfl (by decide +kernel)
set_option maxRecDepth 65536 in
theorem w_c7 : (Jvm.Cond.code ({ cls := "java/lang/StringUTF16", name := "coderFromArrayLen", desc := "([BI)B" } : Jvm.MethodName) jdk_52_method_15_code (2 : Nat) (Option.some Jvm.ClassFile.FieldType.byte)).before args0 about1 = true := code_word (m := ⟨9, 1⟩) (meth := k9m1) (c := k9c1) (by decide +kernel) rfl rfl rfl (by decide +kernel)
set_option maxRecDepth 65536 in
theorem w_c8 : (Jvm.Cond.code ({ cls := "com/example/oversee/oversee/model/ActionEqualsPinLaw", name := "dir", desc := "(I)Lcom/example/oversee/oversee/model/Direction;" } : Jvm.MethodName) method_3_code (1 : Nat) (Option.some (Jvm.ClassFile.FieldType.object "com/example/oversee/oversee/model/Direction"))).before args0 about1 = true := code_word (m := ⟨1, 2⟩) (meth := k1m2) (c := k1c2) (by decide +kernel) rfl rfl rfl (by decide +kernel)
set_option maxRecDepth 65536 in
theorem w_c9 : (Jvm.Cond.code ({ cls := "com/example/oversee/oversee/model/Action", name := "<init>", desc := "(Ljava/lang/String;Ljava/lang/String;Lcom/example/oversee/oversee/model/Direction;Ljava/lang/String;)V" } : Jvm.MethodName) prog_16_method_1_code (5 : Nat) (Option.none : Option Jvm.ClassFile.FieldType)).before args0 about1 = true := code_word (m := ⟨2, 0⟩) (meth := k2m0) (c := k2c0) (by decide +kernel) rfl rfl rfl (by decide +kernel)
set_option maxRecDepth 65536 in
theorem w_c10 : (Jvm.Cond.code ({ cls := "java/util/Objects", name := "requireNonNull", desc := "(Ljava/lang/Object;Ljava/lang/String;)Ljava/lang/Object;" } : Jvm.MethodName) jdk_31_method_11_code (2 : Nat) (Option.some (Jvm.ClassFile.FieldType.object "java/lang/Object"))).before args0 about1 = true := code_word (m := ⟨12, 1⟩) (meth := k12m1) (c := k12c1) (by decide +kernel) rfl rfl rfl (by decide +kernel)
set_option maxRecDepth 65536 in
theorem w_c11 : (Jvm.Cond.code ({ cls := "com/example/oversee/oversee/model/Action", name := "equals", desc := "(Ljava/lang/Object;)Z" } : Jvm.MethodName) prog_16_method_7_code (3 : Nat) (Option.some Jvm.ClassFile.FieldType.boolean)).before args0 about1 = true := code_word (m := ⟨2, 1⟩) (meth := k2m1) (c := k2c1) (by decide +kernel) rfl rfl rfl (by decide +kernel)
set_option maxRecDepth 65536 in
theorem w_c12 : (Jvm.Cond.code ({ cls := "java/lang/String", name := "equals", desc := "(Ljava/lang/Object;)Z" } : Jvm.MethodName) jdk_42_method_66_code (3 : Nat) (Option.some Jvm.ClassFile.FieldType.boolean)).before args0 about1 = true := code_word (m := ⟨8, 2⟩) (meth := k8m2) (c := k8c2) (by decide +kernel) rfl rfl rfl (by decide +kernel)
set_option maxRecDepth 65536 in
theorem w_c13 : (Jvm.Cond.code ({ cls := "java/lang/StringLatin1", name := "equals", desc := "([B[B)Z" } : Jvm.MethodName) jdk_43_method_13_code (3 : Nat) (Option.some Jvm.ClassFile.FieldType.boolean)).before args0 about1 = true := code_word (m := ⟨13, 1⟩) (meth := k13m1) (c := k13c1) (by decide +kernel) rfl rfl rfl (by decide +kernel)
def codes1 : List Jvm.Cond := [Jvm.Cond.code x code maxLocals ret, Jvm.Cond.code ({ cls := "com/example/oversee/oversee/model/ActionEqualsPinLaw", name := "str", desc := "(I)Ljava/lang/String;" } : Jvm.MethodName) method_2_code (2 : Nat) (Option.some (Jvm.ClassFile.FieldType.object "java/lang/String")), Jvm.Cond.code ({ cls := "java/lang/String", name := "<init>", desc := "([C)V" } : Jvm.MethodName) jdk_42_method_3_code (2 : Nat) (Option.none : Option Jvm.ClassFile.FieldType), Jvm.Cond.code ({ cls := "java/lang/String", name := "<init>", desc := "([CIILjava/lang/Void;)V" } : Jvm.MethodName) jdk_42_method_149_code (6 : Nat) (Option.none : Option Jvm.ClassFile.FieldType), Jvm.Cond.code ({ cls := "java/lang/Object", name := "<init>", desc := "()V" } : Jvm.MethodName) object_method_1_code (1 : Nat) (Option.none : Option Jvm.ClassFile.FieldType), Jvm.Cond.code ({ cls := "java/lang/StringUTF16", name := "compress", desc := "([CII)[B" } : Jvm.MethodName) jdk_52_method_16_code (6 : Nat) (Option.some (Jvm.ClassFile.FieldType.array Jvm.ClassFile.FieldType.byte)), Jvm.Cond.code ({ cls := "java/lang/StringUTF16", name := "compress", desc := "([CI[BII)I" } : Jvm.MethodName) jdk_52_method_21_code (7 : Nat) (Option.some Jvm.ClassFile.FieldType.int), Jvm.Cond.code ({ cls := "java/lang/StringUTF16", name := "coderFromArrayLen", desc := "([BI)B" } : Jvm.MethodName) jdk_52_method_15_code (2 : Nat) (Option.some Jvm.ClassFile.FieldType.byte), Jvm.Cond.code ({ cls := "com/example/oversee/oversee/model/ActionEqualsPinLaw", name := "dir", desc := "(I)Lcom/example/oversee/oversee/model/Direction;" } : Jvm.MethodName) method_3_code (1 : Nat) (Option.some (Jvm.ClassFile.FieldType.object "com/example/oversee/oversee/model/Direction")), Jvm.Cond.code ({ cls := "com/example/oversee/oversee/model/Action", name := "<init>", desc := "(Ljava/lang/String;Ljava/lang/String;Lcom/example/oversee/oversee/model/Direction;Ljava/lang/String;)V" } : Jvm.MethodName) prog_16_method_1_code (5 : Nat) (Option.none : Option Jvm.ClassFile.FieldType), Jvm.Cond.code ({ cls := "java/util/Objects", name := "requireNonNull", desc := "(Ljava/lang/Object;Ljava/lang/String;)Ljava/lang/Object;" } : Jvm.MethodName) jdk_31_method_11_code (2 : Nat) (Option.some (Jvm.ClassFile.FieldType.object "java/lang/Object")), Jvm.Cond.code ({ cls := "com/example/oversee/oversee/model/Action", name := "equals", desc := "(Ljava/lang/Object;)Z" } : Jvm.MethodName) prog_16_method_7_code (3 : Nat) (Option.some Jvm.ClassFile.FieldType.boolean), Jvm.Cond.code ({ cls := "java/lang/String", name := "equals", desc := "(Ljava/lang/Object;)Z" } : Jvm.MethodName) jdk_42_method_66_code (3 : Nat) (Option.some Jvm.ClassFile.FieldType.boolean), Jvm.Cond.code ({ cls := "java/lang/StringLatin1", name := "equals", desc := "([B[B)Z" } : Jvm.MethodName) jdk_43_method_13_code (3 : Nat) (Option.some Jvm.ClassFile.FieldType.boolean)]
set_option maxRecDepth 65536 in
theorem codes_eq : words1.filter isCode = codes1 := rfl
theorem w_codes : ∀ c ∈ words1.filter isCode, c.before args0 about1 = true := by
  rw [codes_eq]
  intro c hc
  simp only [codes1, List.mem_cons, List.not_mem_nil, or_false] at hc
  rcases hc with rfl | rfl | rfl | rfl | rfl | rfl | rfl | rfl | rfl | rfl | rfl | rfl | rfl | rfl
  · exact w_c0
  · exact w_c1
  · exact w_c2
  · exact w_c3
  · exact w_c4
  · exact w_c5
  · exact w_c6
  · exact w_c7
  · exact w_c8
  · exact w_c9
  · exact w_c10
  · exact w_c11
  · exact w_c12
  · exact w_c13
set_option maxRecDepth 65536 in
theorem w_t1 : (words1.take 24).all (fun c => isCode c || c.before args0 about1) = true := by decide +kernel
set_option maxRecDepth 65536 in
theorem w_t2 : ((words1.drop 24).take 24).all (fun c => isCode c || c.before args0 about1) = true := by decide +kernel
set_option maxRecDepth 65536 in
theorem w_t3 : (((words1.drop 24).drop 24).take 24).all (fun c => isCode c || c.before args0 about1) = true := by decide +kernel
set_option maxRecDepth 65536 in
theorem w_t4 : (((words1.drop 24).drop 24).drop 24).all (fun c => isCode c || c.before args0 about1) = true := by decide +kernel
theorem w_tables : (allAtoms (Jvm.Cond.code x code maxLocals ret :: tables_1)).before args0 about1 = true := by
  rw [allAtoms_all]
  show words1.all (fun c => c.before args0 about1) = true
  refine all_split ?_ w_codes
  rw [← List.take_append_drop 24 words1, List.all_append, w_t1, ← List.take_append_drop 24 (words1.drop 24), List.all_append, w_t2, ← List.take_append_drop 24 ((words1.drop 24).drop 24), List.all_append, w_t3, w_t4]
  rfl
set_option maxRecDepth 65536 in
theorem w_rest : rest_1_c.before args0 about1 = true := by decide +kernel
set_option maxRecDepth 65536 in
theorem w_case : (Jvm.Cond.and given_1 narrow_1).before args0 about1 = true := by decide +kernel
theorem w_applies : (headSpec (Jvm.Cond.code x code maxLocals ret :: tables_1) room_1).applies x e0.platform about1 = true :=
  (Spec.applies_iff w_frames).mpr ⟨w_running, w_runnable, w_alone, w_named, w_hears, w_ripe, w_room, w_tables⟩
theorem atStart : AtStart classFile x code maxLocals ret World_1 tables_1 room_1 Calls_1 rest_1 Pre_1 launch0 p0 e0 about1 theMethod args0 below0 :=
  ⟨lists_1, trivial, launch0.admits_env _ _ _, launch0.least_env, fairChoices_fair.cas, fairChoices_fair.clock, w_frames, w_args, w_heap, w_applies, trivial, w_rest, w_case⟩
end start1
theorem witness_1 : WitnessClaimed_1 := ⟨start1.p0, start1.e0, start1.about1, start1.theMethod, start1.args0, start1.below0, start1.atStart⟩
end Jvm.Pilot.@@N@@
