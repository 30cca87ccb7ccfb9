import JvmDerived
import JvmDerived.Pilot.@@N@@Statement
import JvmDerived.Pilot.@@N@@Code
set_option linter.unusedVariables false
set_option linter.unusedSimpArgs false
@@BLOCK:NumsL.lean.txt@@
/- laws to paste: Road.backV, Road.eqW, Road.codOf (cut by pick.py; bodies as the Statement names them) -/
namespace Jvm.Pilot.@@N@@
namespace StrChars
open Jvm Sem ClassFile Op Lib Jvm.Stand Jvm.Free.XT Jvm.Free.ALB Jvm.Free.JM Jvm.Free
open Jvm.Lib.Cold (StaticIs)
/-- a char array whose places are chars -/
def Ch (a : Addr) (A : Cell) (U : State) : Prop := Arr .char a A U ∧ Typed .char A
theorem Ch.mv {a : Addr} {A : Cell} {U U' : State} (h : Ch a A U) (hal : U.vm.Alike U'.vm) (hh : U'.heap = U.heap) : Ch a A U' := ⟨h.1.mv hal hh, h.2⟩
theorem Ch.keep {a : Addr} {A : Cell} {U U' : State} (h : Ch a A U) (hal : U.vm.Alike U'.vm) (hk : U'.heap[a]? = some A) : Ch a A U' := ⟨h.1.keep hal hk, h.2⟩
/-- what place i of a char[]'s cell holds -/
def cv (A : Cell) (i : Nat) : Int32 := match A.slots[i]? with | some (.int x) => x | _ => 0
theorem Ch.get {a : Addr} {A : Cell} {U : State} (h : Ch a A U) {i : Nat} (hi : i < A.slots.size) : A.slots[i]? = some (.int (cv A i)) := by
  have e := Array.getElem?_eq_getElem hi
  have f := h.2 i _ e
  unfold cv; rw [e]
  generalize A.slots[i] = v at f
  cases v <;> simp [fits] at f ⊢
/-- the byte that i2b leaves of a char -/
def lo8 (x : Int32) : Int32 := x.toInt8.toInt32
theorem fits_lo8 (y : Int32) : fits .byte (.int (lo8 y)) = true := by
  have h1 := y.toInt8.le_toInt
  have h2 := y.toInt8.toInt_lt
  simp only [lo8, fits, Bool.and_eq_true, decide_eq_true_eq, Int32.le_iff_toInt_le, Int8.toInt_toInt32, show (-128 : Int32).toInt = -128 from by decide, show (127 : Int32).toInt = 127 from by decide]
  omega
/-- A' is A but that each place j of lo .. hi - 1 holds f j -/
def Laid (A A' : Cell) (lo hi : Nat) (f : Nat → Value) : Prop := A'.cls = A.cls ∧ A'.vm = A.vm ∧ A'.slots.size = A.slots.size ∧ ∀ i, A'.slots[i]? = if lo ≤ i ∧ i < hi then some (f i) else A.slots[i]?
theorem Laid.zero (A : Cell) (lo : Nat) (f : Nat → Value) : Laid A A lo (lo + 0) f := ⟨rfl, rfl, rfl, fun i => by rw [if_neg (by omega)]⟩
theorem Laid.step {A Ak : Cell} {lo k : Nat} {f : Nat → Value} {v : Value} (h : Laid A Ak lo k f) (hlo : lo ≤ k) (hk : k < Ak.slots.size) (hv : v = f k) : Laid A (Ak.setSlot k v) lo (k + 1) f := by
  refine ⟨h.1, h.2.1, by simpa [Cell.setSlot] using h.2.2.1, fun i => ?_⟩
  by_cases e : k = i
  · subst e; rw [Cell.slots_setSlot_self v hk, if_pos (by omega), hv]
  · rw [Cell.slots_setSlot_ne v e, h.2.2.2 i]
    by_cases q : lo ≤ i ∧ i < k
    · rw [if_pos q, if_pos (by omega)]
    · rw [if_neg q, if_neg (by omega)]
def U16 : String := "java/lang/StringUTF16"
namespace Cmp5
def yN : MethodName := ⟨"java/lang/StringUTF16", "compress", "([CI[BII)I"⟩
abbrev yB : ByteArray := jdk_52_method_21_code
theorem d0 : decode yB 0 = .ok (.iconst 0, 1) := by decide +kernel
theorem d1 : decode yB 1 = .ok (.istore 5, 2) := by decide +kernel
theorem d3 : decode yB 3 = .ok (.iload 5, 2) := by decide +kernel
theorem d5 : decode yB 5 = .ok (.iload 4, 2) := by decide +kernel
theorem d7 : decode yB 7 = .ok (.if_icmp (.ge) 37, 3) := by decide +kernel
theorem d10 : decode yB 10 = .ok (.aload_n 0, 1) := by decide +kernel
theorem d11 : decode yB 11 = .ok (.iload_n 1, 1) := by decide +kernel
theorem d12 : decode yB 12 = .ok (.caload, 1) := by decide +kernel
theorem d13 : decode yB 13 = .ok (.istore 6, 2) := by decide +kernel
theorem d15 : decode yB 15 = .ok (.iload 6, 2) := by decide +kernel
theorem d17 : decode yB 17 = .ok (.sipush 255, 3) := by decide +kernel
theorem d20 : decode yB 20 = .ok (.if_icmp (.le) 6, 3) := by decide +kernel
theorem d26 : decode yB 26 = .ok (.aload_n 2, 1) := by decide +kernel
theorem d27 : decode yB 27 = .ok (.iload_n 3, 1) := by decide +kernel
theorem d28 : decode yB 28 = .ok (.iload 6, 2) := by decide +kernel
theorem d30 : decode yB 30 = .ok (.i2b, 1) := by decide +kernel
theorem d31 : decode yB 31 = .ok (.bastore, 1) := by decide +kernel
theorem d32 : decode yB 32 = .ok (.iinc 1 1, 3) := by decide +kernel
theorem d35 : decode yB 35 = .ok (.iinc 3 1, 3) := by decide +kernel
theorem d38 : decode yB 38 = .ok (.iinc 5 1, 3) := by decide +kernel
theorem d41 : decode yB 41 = .ok (.goto (-38), 3) := by decide +kernel
theorem d44 : decode yB 44 = .ok (.iload 4, 2) := by decide +kernel
theorem d46 : decode yB 46 = .ok (.ireturn, 1) := by decide +kernel
def site : List Cond := []
def tab : Cond := tabOf yN yB 7 (some .int) site
def P (b : Addr) (A : Cell) (d : Addr) (B : Cell) (o q len : Nat) (args : Array Value) (s : State) : Prop := args = #[.ref b, .int (Int32.ofNat o), .ref d, .int (Int32.ofNat q), .int (Int32.ofNat len)] ∧ Ch b A s ∧ Arr .byte d B s ∧ b ≠ d ∧ o + len ≤ A.slots.size ∧ q + len ≤ B.slots.size ∧ ∀ i, i < len → ¬ 255 < cv A (o + i)
def E (b : Addr) (A : Cell) (d : Addr) (B : Cell) (o q len : Nat) (r : Option Value) (s u : State) : Prop := r = some (.int (Int32.ofNat len)) ∧ ∃ B', Put d B' s u ∧ Laid B B' q (q + len) (fun j => Value.int (lo8 (cv A (o + (j - q)))))
/-- no char of the range above 255: len; the places written hold each char's low byte -/
theorem law (l : Launch) (b : Addr) (A : Cell) (d : Addr) (B : Cell) (o q len : Nat) : Law l yN 5 5 0 0 yB 7 (some .int) site (P b A d B o q len) (E b A d B o q len) (copyLocs d q len) 0 0 := by
  refine Law.of_walk (plainFor_of_name (by decide +kernel)) (by decide +kernel) (by decide +kernel) (by decide) (fun _ _ h => by rw [h.1]; rfl) (fun _ U U' hal hh h => ⟨h.1, h.2.1.mv hal hh, h.2.2.1.mv hal hh, h.2.2.2⟩) (fun r U U' V V' h1 hal h2 h => ⟨h.1, h.2.elim fun B' q => ⟨B', q.1.mv h1 h2, q.2⟩⟩) ?_
  intro p e s m args below meth c s₁ X0 hexec hbytes hml hret hlk hnm hown hh0 W hP
  obtain ⟨rfl, hA, hB, hne, l1, l2, hp⟩ := hP
  have c1 : Steps p.tables e below (s₁.setTop (entryFrame m #[.ref b, .int (Int32.ofNat o), .ref d, .int (Int32.ofNat q), .int (Int32.ofNat len)] 7)) (s₁.setTop (mkF m 0 #[.val (.ref b), .val (.int (Int32.ofNat o)), .val (.ref d), .val (.int (Int32.ofNat q)), .val (.int (Int32.ofNat len)), .unset, .unset] [])) := entry rfl
  have hA0 := hA.1.mv X0.warmed.alike hh0
  have hB0 := hB.mv X0.warmed.alike hh0
  have a31 := hA.1.2.2.2
  have c2 : Steps p.tables e below (s₁.setTop (entryFrame m #[.ref b, .int (Int32.ofNat o), .ref d, .int (Int32.ofNat q), .int (Int32.ofNat len)] 7)) (s₁.setTop (mkF m 3 #[.val (.ref b), .val (.int (Int32.ofNat o)), .val (.ref d), .val (.int (Int32.ofNat q)), .val (.int (Int32.ofNat len)), .val (.int 0), .unset] [])) := c1.trans (by
    refine iconstV X0.here hexec rfl 0 (hb hbytes d0) (by decide) ?_
    refine XS.istore X0.here hexec rfl (hb hbytes d1) rfl rfl ?_
    exact Steps.refl _)
  have loop : ∀ (r i : Nat), i + r = len → ∀ (z : Slot), (z = .unset ∨ ∃ w, z = .val w ∧ w.category = 1) → ∀ (Tl : State) (Bk : Cell), Stand p l e { frames := 0, locals := 0, cells := 0, slots := 0 } s m #[.ref b, .int (Int32.ofNat o), .ref d, .int (Int32.ofNat q), .int (Int32.ofNat len)] below meth c Tl ([] ++ copyLocs d q i) 0 0 → Put d Bk s₁ Tl → Laid B Bk q (q + i) (fun j => Value.int (lo8 (cv A (o + (j - q))))) →
      Steps p.tables e below (s₁.setTop (entryFrame m #[.ref b, .int (Int32.ofNat o), .ref d, .int (Int32.ofNat q), .int (Int32.ofNat len)] 7)) (Tl.setTop (mkF m 3 #[.val (.ref b), .val (.int (Int32.ofNat (o + i))), .val (.ref d), .val (.int (Int32.ofNat (q + i))), .val (.int (Int32.ofNat len)), .val (.int (Int32.ofNat i)), z] [])) → ∃ (T' : State) (B' : Cell) (z' : Slot), Stand p l e { frames := 0, locals := 0, cells := 0, slots := 0 } s m #[.ref b, .int (Int32.ofNat o), .ref d, .int (Int32.ofNat q), .int (Int32.ofNat len)] below meth c T' ([] ++ copyLocs d q len) 0 0 ∧ Put d B' s₁ T' ∧ Laid B B' q (q + len) (fun j => Value.int (lo8 (cv A (o + (j - q))))) ∧
      Steps p.tables e below (s₁.setTop (entryFrame m #[.ref b, .int (Int32.ofNat o), .ref d, .int (Int32.ofNat q), .int (Int32.ofNat len)] 7)) (T'.setTop (mkF m 3 #[.val (.ref b), .val (.int (Int32.ofNat (o + len))), .val (.ref d), .val (.int (Int32.ofNat (q + len))), .val (.int (Int32.ofNat len)), .val (.int (Int32.ofNat len)), z'] [])) := by
    intro r
    induction r with
    | zero =>
      intro i hi z hz Tl Bk Xl pl fl cl
      have hil : i = len := by omega
      rw [hil] at Xl fl cl
      exact ⟨Tl, Bk, z, Xl, pl, fl, cl⟩
    | succ r ih =>
      intro i hi z hz Tl Bk Xl pl fl cl
      have all := X0.warmed.alike.symm.trans Xl.warmed.alike
      have hAl := hA0.keep all (pl.other hne hA0.1)
      have hBk := hB0.like all pl.1 fl.1 fl.2.1 fl.2.2.1
      have hlt : q + i < Bk.slots.size := by rw [fl.2.2.1]; omega
      have c3 : Steps p.tables e below (s₁.setTop (entryFrame m #[.ref b, .int (Int32.ofNat o), .ref d, .int (Int32.ofNat q), .int (Int32.ofNat len)] 7)) (Tl.setTop (mkF m 12 #[.val (.ref b), .val (.int (Int32.ofNat (o + i))), .val (.ref d), .val (.int (Int32.ofNat (q + i))), .val (.int (Int32.ofNat len)), .val (.int (Int32.ofNat i)), z] [.int (Int32.ofNat (o + i)), .ref b])) := cl.trans (by
        refine XS.iload Xl.here hexec rfl (hb hbytes d3) rfl ?_
        refine XS.iload Xl.here hexec rfl (hb hbytes d5) rfl ?_
        refine XS.icmpNo Xl.here hexec rfl (hb hbytes d7) rfl (ii_ge_f (lt32 (by omega) (by omega))) ?_
        refine XS.aloadN Xl.here hexec rfl (hb hbytes d10) rfl rfl ?_
        refine XS.iloadN Xl.here hexec rfl (hb hbytes d11) rfl ?_
        exact Steps.refl _)
      have c4 : Steps p.tables e below (s₁.setTop (entryFrame m #[.ref b, .int (Int32.ofNat o), .ref d, .int (Int32.ofNat q), .int (Int32.ofNat len)] 7)) (Tl.setTop (mkF m 13 #[.val (.ref b), .val (.int (Int32.ofNat (o + i))), .val (.ref d), .val (.int (Int32.ofNat (q + i))), .val (.int (Int32.ofNat len)), .val (.int (Int32.ofNat i)), z] [.int (cv A (o + i))])) := c3.trans (by
        refine Xl.aget hexec hAl rfl (hA.get (i := o + i) (by omega)) rfl rfl (hb hbytes d12) ?_
        exact Steps.refl _)
      have c5 : Steps p.tables e below (s₁.setTop (entryFrame m #[.ref b, .int (Int32.ofNat o), .ref d, .int (Int32.ofNat q), .int (Int32.ofNat len)] 7)) (Tl.setTop (mkF m 15 #[.val (.ref b), .val (.int (Int32.ofNat (o + i))), .val (.ref d), .val (.int (Int32.ofNat (q + i))), .val (.int (Int32.ofNat len)), .val (.int (Int32.ofNat i)), .val (.int (cv A (o + i)))] [])) := c4.trans (by
        refine XS.istoreS Xl.here hexec rfl (hb hbytes d13) rfl rfl hz ?_
        exact Steps.refl _)
      have c6 : Steps p.tables e below (s₁.setTop (entryFrame m #[.ref b, .int (Int32.ofNat o), .ref d, .int (Int32.ofNat q), .int (Int32.ofNat len)] 7)) (Tl.setTop (mkF m 31 #[.val (.ref b), .val (.int (Int32.ofNat (o + i))), .val (.ref d), .val (.int (Int32.ofNat (q + i))), .val (.int (Int32.ofNat len)), .val (.int (Int32.ofNat i)), .val (.int (cv A (o + i)))] [.int (lo8 (cv A (o + i))), .int (Int32.ofNat (q + i)), .ref d])) := c5.trans (by
        refine XS.iload Xl.here hexec rfl (hb hbytes d15) rfl ?_
        refine sipushV Xl.here hexec rfl 255 (hb hbytes d17) (by decide) ?_
        refine XS.icmpYes Xl.here hexec rfl (pc0 := 20) rfl (hb hbytes d20) rfl (ii_le_t (hp i (by omega))) (by decide) rfl ?_
        refine XS.aloadN Xl.here hexec rfl (hb hbytes d26) rfl rfl ?_
        refine XS.iloadN Xl.here hexec rfl (hb hbytes d27) rfl ?_
        refine XS.iload Xl.here hexec rfl (hb hbytes d28) rfl ?_
        refine i2b Xl.here hexec rfl (hb hbytes d30) rfl ?_
        exact Steps.refl _)
      obtain ⟨T7, X7, p7, st7⟩ := Xl.aput hexec hBk rfl hlt rfl (fits_lo8 (cv A (o + i))) (g := (mkF m 31 #[.val (.ref b), .val (.int (Int32.ofNat (o + i))), .val (.ref d), .val (.int (Int32.ofNat (q + i))), .val (.int (Int32.ofNat len)), .val (.int (Int32.ofNat i)), .val (.int (cv A (o + i)))] [.int (lo8 (cv A (o + i))), .int (Int32.ofNat (q + i)), .ref d])) rfl (rest := []) rfl (hb hbytes d31)
      have c8 : Steps p.tables e below (s₁.setTop (entryFrame m #[.ref b, .int (Int32.ofNat o), .ref d, .int (Int32.ofNat q), .int (Int32.ofNat len)] 7)) (T7.setTop (mkF m 32 #[.val (.ref b), .val (.int (Int32.ofNat (o + i))), .val (.ref d), .val (.int (Int32.ofNat (q + i))), .val (.int (Int32.ofNat len)), .val (.int (Int32.ofNat i)), .val (.int (cv A (o + i)))] [])) := c6.trans (st7 _ (Steps.refl _))
      have c9 : Steps p.tables e below (s₁.setTop (entryFrame m #[.ref b, .int (Int32.ofNat o), .ref d, .int (Int32.ofNat q), .int (Int32.ofNat len)] 7)) (T7.setTop (mkF m 3 #[.val (.ref b), .val (.int (Int32.ofNat (o + i) + 1)), .val (.ref d), .val (.int (Int32.ofNat (q + i) + 1)), .val (.int (Int32.ofNat len)), .val (.int (Int32.ofNat i + 1)), .val (.int (cv A (o + i)))] [])) := c8.trans (by
        refine iincV X7.here hexec rfl 1 (hb hbytes d32) (by decide) rfl rfl ?_
        refine iincV X7.here hexec rfl 1 (hb hbytes d35) (by decide) rfl rfl ?_
        refine iincV X7.here hexec rfl 1 (hb hbytes d38) (by decide) rfl rfl ?_
        refine XS.goto X7.here hexec rfl (pc0 := 41) rfl (hb hbytes d41) (by decide) rfl ?_
        exact Steps.refl _)
      have c10 : Steps p.tables e below (s₁.setTop (entryFrame m #[.ref b, .int (Int32.ofNat o), .ref d, .int (Int32.ofNat q), .int (Int32.ofNat len)] 7)) (T7.setTop (mkF m 3 #[.val (.ref b), .val (.int (Int32.ofNat (o + (i + 1)))), .val (.ref d), .val (.int (Int32.ofNat (q + (i + 1)))), .val (.int (Int32.ofNat len)), .val (.int (Int32.ofNat (i + 1))), .val (.int (cv A (o + i)))] [])) := by
        have := c9
        rw [succ32, succ32, succ32] at this
        exact this
      exact ih (i + 1) (by omega) _ (Or.inr ⟨_, rfl, rfl⟩) T7 _ (by rw [copyLocs_step, ← List.append_assoc]; exact X7) (pl.trans p7) (fl.step (by omega) hlt (by simp)) c10
  obtain ⟨T9, B9, z9, X9, p9, f9, g9⟩ := loop len 0 (by omega) .unset (Or.inl rfl) s₁ B (by simpa [copyLocs] using X0) ⟨hB0.1, fun _ _ => rfl, rfl⟩ (Laid.zero _ _ _) c2
  have c11 : Steps p.tables e below (s₁.setTop (entryFrame m #[.ref b, .int (Int32.ofNat o), .ref d, .int (Int32.ofNat q), .int (Int32.ofNat len)] 7)) (T9.setTop (mkF m 46 #[.val (.ref b), .val (.int (Int32.ofNat (o + len))), .val (.ref d), .val (.int (Int32.ofNat (q + len))), .val (.int (Int32.ofNat len)), .val (.int (Int32.ofNat len)), z9] [.int (Int32.ofNat len)])) := g9.trans (by
    refine XS.iload X9.here hexec rfl (hb hbytes d3) rfl ?_
    refine XS.iload X9.here hexec rfl (hb hbytes d5) rfl ?_
    refine XS.icmpYes X9.here hexec rfl (pc0 := 7) rfl (hb hbytes d7) rfl (ii_ge_t (nlt32 (by omega) (Nat.le_refl _))) (by decide) rfl ?_
    refine XS.iload X9.here hexec rfl (hb hbytes d44) rfl ?_
    exact Steps.refl _)
  exact ⟨T9, some (.int (Int32.ofNat len)), _, _, _, X9, by simp, rfl, rfl, (fun h => by cases h), ⟨rfl, B9, p9.from hh0, f9⟩, fun fs hl => c11.trans (X9.ireturnOut hexec hret rfl (Or.inl rfl) (hb hbytes d46) hl)⟩
end Cmp5
namespace Cmp3
def yN : MethodName := ⟨"java/lang/StringUTF16", "compress", "([CII)[B"⟩
abbrev yB : ByteArray := jdk_52_method_16_code
theorem d0 : decode yB 0 = .ok (.iload_n 2, 1) := by decide +kernel
theorem d1 : decode yB 1 = .ok (.newarray .byte, 2) := by decide +kernel
theorem d3 : decode yB 3 = .ok (.astore_n 3, 1) := by decide +kernel
theorem d4 : decode yB 4 = .ok (.aload_n 0, 1) := by decide +kernel
theorem d5 : decode yB 5 = .ok (.iload_n 1, 1) := by decide +kernel
theorem d6 : decode yB 6 = .ok (.aload_n 3, 1) := by decide +kernel
theorem d7 : decode yB 7 = .ok (.iconst 0, 1) := by decide +kernel
theorem d8 : decode yB 8 = .ok (.iload_n 2, 1) := by decide +kernel
theorem d9 : decode yB 9 = .ok (.invokestatic 115, 3) := by decide +kernel
theorem d12 : decode yB 12 = .ok (.istore 4, 2) := by decide +kernel
theorem d14 : decode yB 14 = .ok (.iload 4, 2) := by decide +kernel
theorem d16 : decode yB 16 = .ok (.iload_n 2, 1) := by decide +kernel
theorem d17 : decode yB 17 = .ok (.if_icmp (.eq) 40, 3) := by decide +kernel
theorem d57 : decode yB 57 = .ok (.aload_n 3, 1) := by decide +kernel
theorem d58 : decode yB 58 = .ok (.areturn, 1) := by decide +kernel
def site : List Cond := [.arrayClass .byte, Cmp5.tab] ++ staticW U16 115 Cmp5.yN
def tab : Cond := tabOf yN yB 6 (some (.array .byte)) site
def P (b : Addr) (A : Cell) (o len : Nat) (args : Array Value) (s : State) : Prop := args = #[.ref b, .int (Int32.ofNat o), .int (Int32.ofNat len)] ∧ Ch b A s ∧ o + len ≤ A.slots.size ∧ len ≤ 536870912 ∧ ∀ i, i < len → ¬ 255 < cv A (o + i)
def E (b : Addr) (A : Cell) (o len : Nat) (r : Option Value) (s u : State) : Prop := NewArr .byte "[B" len (fun j => .int (lo8 (cv A (o + j)))) r s u ∧ u.heap.size = s.heap.size + 1
/-- no char of the range above 255: a new byte[] of their low bytes -/
theorem law (l : Launch) (b : Addr) (A : Cell) (o len : Nat) : Law l yN 3 3 1 18 yB 6 (some (.array .byte)) site (P b A o len) (E b A o len) [] 1 len := by
  refine Law.of_walk (plainFor_of_name (by decide +kernel)) (by decide +kernel) (by decide +kernel) (by decide) (fun _ _ h => by rw [h.1]; rfl) (fun _ U U' hal hh h => ⟨h.1, h.2.1.mv hal hh, h.2.2⟩) (fun r U U' V V' h1 hal h2 h => ⟨NewArr.mv r U U' V V' h1 hal h2 h.1, by rw [h1, h2]; exact h.2⟩) ?_
  intro p e s m args below meth c s₁ X0 hexec hbytes hml hret hlk hnm hown hh0 W hP
  obtain ⟨rfl, hA, l1, l2, hp⟩ := hP
  have a31 := hA.1.2.2.2
  have c1 : Steps p.tables e below (s₁.setTop (entryFrame m #[.ref b, .int (Int32.ofNat o), .int (Int32.ofNat len)] 6)) (s₁.setTop (mkF m 0 #[.val (.ref b), .val (.int (Int32.ofNat o)), .val (.int (Int32.ofNat len)), .unset, .unset, .unset] [])) := entry rfl
  have c2 : Steps p.tables e below (s₁.setTop (entryFrame m #[.ref b, .int (Int32.ofNat o), .int (Int32.ofNat len)] 6)) (s₁.setTop (mkF m 1 #[.val (.ref b), .val (.int (Int32.ofNat o)), .val (.int (Int32.ofNat len)), .unset, .unset, .unset] [.int (Int32.ofNat len)])) := c1.trans (by
    refine XS.iloadN X0.here hexec rfl (hb hbytes d0) rfl ?_
    exact Steps.refl _)
  obtain ⟨T3, B3, X3, ba3, bs3, bv3, bh3, bf3, st3⟩ := X0.anew hexec (atype := .byte) (wk W (.arrayClass .byte)) rfl (by show len * 1 ≤ _; omega) (by omega) (g := (mkF m 1 #[.val (.ref b), .val (.int (Int32.ofNat o)), .val (.int (Int32.ofNat len)), .unset, .unset, .unset] [.int (Int32.ofNat len)])) rfl (hb hbytes d1) (rest := []) rfl (Nat.le_refl _) (by show 0 + len ≤ len; omega)
  rw [hh0] at ba3 st3
  have kp3 : XT.Kept s T3 := (XT.Kept.of_eq hh0).push bh3
  have hA3 := hA.keep X3.warmed.alike (kp3 _ _ hA.1.1)
  have hne : b ≠ s.heap.size := hA.1.ne
  have c4 : Steps p.tables e below (s₁.setTop (entryFrame m #[.ref b, .int (Int32.ofNat o), .int (Int32.ofNat len)] 6)) (T3.setTop (mkF m 3 #[.val (.ref b), .val (.int (Int32.ofNat o)), .val (.int (Int32.ofNat len)), .unset, .unset, .unset] [.ref s.heap.size])) := c2.trans (st3 _ (Steps.refl _))
  have c5 : Steps p.tables e below (s₁.setTop (entryFrame m #[.ref b, .int (Int32.ofNat o), .int (Int32.ofNat len)] 6)) (T3.setTop (mkF m 9 #[.val (.ref b), .val (.int (Int32.ofNat o)), .val (.int (Int32.ofNat len)), .val (.ref s.heap.size), .unset, .unset] [.int (Int32.ofNat len), .int 0, .ref s.heap.size, .int (Int32.ofNat o), .ref b])) := c4.trans (by
    refine XS.astoreN X3.here hexec rfl (hb hbytes d3) rfl rfl rfl ?_
    refine XS.aloadN X3.here hexec rfl (hb hbytes d4) rfl rfl ?_
    refine XS.iloadN X3.here hexec rfl (hb hbytes d5) rfl ?_
    refine XS.aloadN X3.here hexec rfl (hb hbytes d6) rfl rfl ?_
    refine iconstV X3.here hexec rfl 0 (hb hbytes d7) (by decide) ?_
    refine XS.iloadN X3.here hexec rfl (hb hbytes d8) rfl ?_
    exact Steps.refl _)
  obtain ⟨v6, T6, X6, E6, g6⟩ := X3.callS hexec (Cmp5.law l b A s.heap.size B3 o 0 len) hown (wks W (staticW U16 115 Cmp5.yN)) (wk W Cmp5.tab) (W := 0) (Nat.le_of_ble_eq_true rfl) (Nat.le_of_ble_eq_true rfl) (Nat.le_refl _) (by show 0 + len + 0 ≤ len; omega) (g := (mkF m 9 #[.val (.ref b), .val (.int (Int32.ofNat o)), .val (.int (Int32.ofNat len)), .val (.ref s.heap.size), .unset, .unset] [.int (Int32.ofNat len), .int (Int32.ofNat 0), .ref s.heap.size, .int (Int32.ofNat o), .ref b])) rfl (by rw [hml]; rfl) c5 (argsL := [.ref b, .int (Int32.ofNat o), .ref s.heap.size, .int (Int32.ofNat 0), .int (Int32.ofNat len)]) (rest := []) rfl rfl (by show 2 * 0 + 0 ≤ _; decide) (hb hbytes d9) (⟨rfl, hA3, ba3, hne, l1, by rw [bs3]; simp, hp⟩)
  obtain ⟨rfl, B6, p6, f6⟩ := E6
  have c7 : Steps p.tables e below (s₁.setTop (entryFrame m #[.ref b, .int (Int32.ofNat o), .int (Int32.ofNat len)] 6)) (T6.setTop (mkF m 12 #[.val (.ref b), .val (.int (Int32.ofNat o)), .val (.int (Int32.ofNat len)), .val (.ref s.heap.size), .unset, .unset] [.int (Int32.ofNat len)])) := g6
  have c8 : Steps p.tables e below (s₁.setTop (entryFrame m #[.ref b, .int (Int32.ofNat o), .int (Int32.ofNat len)] 6)) (T6.setTop (mkF m 58 #[.val (.ref b), .val (.int (Int32.ofNat o)), .val (.int (Int32.ofNat len)), .val (.ref s.heap.size), .val (.int (Int32.ofNat len)), .unset] [.ref s.heap.size])) := c7.trans (by
    refine XS.istore X6.here hexec rfl (hb hbytes d12) rfl rfl ?_
    refine XS.iload X6.here hexec rfl (hb hbytes d14) rfl ?_
    refine XS.iloadN X6.here hexec rfl (hb hbytes d16) rfl ?_
    refine XS.icmpYes X6.here hexec rfl (pc0 := 17) rfl (hb hbytes d17) rfl (ii_eq_t rfl) (by decide) rfl ?_
    refine XS.aloadN X6.here hexec rfl (hb hbytes d57) rfl rfl ?_
    exact Steps.refl _)
  have X8 := X6.wide (L' := []) (cells' := 1) (slots' := len) (fun x hx hlt => by
    simp only [List.nil_append, copyLocs, List.mem_map, List.mem_range] at hx
    obtain ⟨i, -, rfl⟩ := hx
    exact absurd hlt (Nat.lt_irrefl _)) (Nat.le_refl _) (by omega)
  exact ⟨T6, some (.ref s.heap.size), _, _, _, X8, rfl, rfl, rfl, (fun h => by cases h), ⟨⟨rfl, B6, ba3.like (X3.warmed.alike.symm.trans X6.warmed.alike) p6.1 f6.1 f6.2.1 f6.2.2.1, f6.2.1.trans bv3, by rw [X6.warmed.alike.findClass, f6.1]; exact bf3, by rw [f6.2.2.1, bs3]; simp, fun j hj => by rw [f6.2.2.2 j, if_pos (by omega)]; rfl, kp3.put p6 (Nat.le_refl _)⟩, by rw [p6.2.2, bh3, hh0]; simp⟩, fun fs hl => c8.trans (X8.areturnOut hexec rfl hret rfl (hb hbytes d58) hl)⟩
end Cmp3
namespace CodL
def yN : MethodName := ⟨"java/lang/StringUTF16", "coderFromArrayLen", "([BI)B"⟩
abbrev yB : ByteArray := jdk_52_method_15_code
theorem d0 : decode yB 0 = .ok (.iload_n 1, 1) := by decide +kernel
theorem d1 : decode yB 1 = .ok (.aload_n 0, 1) := by decide +kernel
theorem d2 : decode yB 2 = .ok (.arraylength, 1) := by decide +kernel
theorem d3 : decode yB 3 = .ok (.isub, 1) := by decide +kernel
theorem d4 : decode yB 4 = .ok (.bipush 31, 2) := by decide +kernel
theorem d6 : decode yB 6 = .ok (.iushr, 1) := by decide +kernel
theorem d7 : decode yB 7 = .ok (.i2b, 1) := by decide +kernel
theorem d8 : decode yB 8 = .ok (.ireturn, 1) := by decide +kernel
def site : List Cond := []
def tab : Cond := tabOf yN yB 2 (some .byte) site
def P (d : Addr) (B : Cell) (args : Array Value) (s : State) : Prop := args = #[.ref d, .int (Int32.ofNat B.slots.size)] ∧ Arr .byte d B s
def E (r : Option Value) (s u : State) : Prop := XT.PureE (some (.int 0)) r s u
/-- an array as long as the number of chars: LATIN1 -/
theorem law (l : Launch) (d : Addr) (B : Cell) : Law l yN 2 2 0 0 yB 2 (some .byte) site (P d B) E [] 0 0 := by
  refine Law.of_walk (plainFor_of_name (by decide +kernel)) (by decide +kernel) (by decide +kernel) (by decide) (fun _ _ h => by rw [h.1]; rfl) (fun _ U U' hal hh h => ⟨h.1, h.2.mv hal hh⟩) (fun r U U' V V' h1 hal h2 h => XT.PureE.mv r U U' V V' h1 hal h2 h) ?_
  intro p e s m args below meth c s₁ X0 hexec hbytes hml hret hlk hnm hown hh0 W hP
  obtain ⟨rfl, hB⟩ := hP
  have hB0 := hB.mv X0.warmed.alike hh0
  have c1 : Steps p.tables e below (s₁.setTop (entryFrame m #[.ref d, .int (Int32.ofNat B.slots.size)] 2)) (s₁.setTop (mkF m 0 #[.val (.ref d), .val (.int (Int32.ofNat B.slots.size))] [])) := entry rfl
  have c2 : Steps p.tables e below (s₁.setTop (entryFrame m #[.ref d, .int (Int32.ofNat B.slots.size)] 2)) (s₁.setTop (mkF m 2 #[.val (.ref d), .val (.int (Int32.ofNat B.slots.size))] [.ref d, .int (Int32.ofNat B.slots.size)])) := c1.trans (by
    refine XS.iloadN X0.here hexec rfl (hb hbytes d0) rfl ?_
    refine XS.aloadN X0.here hexec rfl (hb hbytes d1) rfl rfl ?_
    exact Steps.refl _)
  have c3 : Steps p.tables e below (s₁.setTop (entryFrame m #[.ref d, .int (Int32.ofNat B.slots.size)] 2)) (s₁.setTop (mkF m 8 #[.val (.ref d), .val (.int (Int32.ofNat B.slots.size))] [.int (lo8 (ushr (Int32.ofNat B.slots.size - Int32.ofNat B.slots.size) 31))])) := c2.trans (by
    refine X0.alen hexec hB0 rfl rfl (hb hbytes d2) ?_
    refine XS.isub X0.here hexec rfl (hb hbytes d3) rfl ?_
    refine bipushV X0.here hexec rfl 31 (hb hbytes d4) (by decide) ?_
    refine iushr X0.here hexec rfl (hb hbytes d6) rfl ?_
    refine i2b X0.here hexec rfl (hb hbytes d7) rfl ?_
    exact Steps.refl _)
  have e0 : lo8 (ushr (Int32.ofNat B.slots.size - Int32.ofNat B.slots.size) 31) = 0 := by rw [Int32.sub_self]; decide
  rw [e0] at c3
  exact ⟨s₁, some (.int 0), _, _, _, X0, rfl, rfl, rfl, (fun h => by cases h), ⟨rfl, hh0⟩, fun fs hl => c3.trans (X0.ireturnOut hexec hret rfl (Or.inr (Or.inr (Or.inl rfl))) (hb hbytes d8) hl)⟩
end CodL
/-- the String at a is Latin-1 over a new byte[] (the heap's one new cell): the low bytes of the len chars of A from o on; every cell but a is kept -/
def Got (a : Addr) (D : Cell) (fV fC : Field) (A : Cell) (o len : Nat) (r : Option Value) (s u : State) : Prop := r = none ∧ ∃ D' V : Cell, Blank "java/lang/String" a D' u ∧ Same D D' [fV.slot, fC.slot] ∧ D'.slots[fV.slot]? = some (.ref s.heap.size) ∧ D'.slots[fC.slot]? = some (.int 0) ∧ Arr .byte s.heap.size V u ∧ V.vm = .none ∧ u.vm.findClass "[B" = some V.cls ∧ V.slots.size = len ∧ (∀ j, j < len → V.slots[j]? = some (.int (lo8 (cv A (o + j))))) ∧ (∀ (y : Addr) (c : Cell), y ≠ a → s.heap[y]? = some c → u.heap[y]? = some c) ∧ u.heap.size = s.heap.size + 1
theorem Got.mv {a : Addr} {D A : Cell} {fV fC : Field} {o len : Nat} : ∀ r (U U' V V' : State), U'.heap = U.heap → V.vm.Alike V'.vm → V'.heap = V.heap → Got a D fV fC A o len r U V → Got a D fV fC A o len r U' V' :=
  fun r U U' V V' h1 hal h2 ⟨e0, D', X, a1, a2, a3, a4, a5, a6, a7, a8, a9, a10, a11⟩ => ⟨e0, D', X, a1.mv hal h2, a2, by rw [h1]; exact a3, a4, by rw [h1]; exact a5.mv hal h2, a6, by rw [hal.findClass]; exact a7, a8, a9, by rw [h1, h2]; exact a10, by rw [h1, h2]; exact a11⟩
namespace New4
def yN : MethodName := ⟨"java/lang/String", "<init>", "([CIILjava/lang/Void;)V"⟩
abbrev yB : ByteArray := jdk_42_method_149_code
theorem d0 : decode yB 0 = .ok (.aload_n 0, 1) := by decide +kernel
theorem d1 : decode yB 1 = .ok (.invokespecial 1, 3) := by decide +kernel
theorem d4 : decode yB 4 = .ok (.iload_n 3, 1) := by decide +kernel
theorem d5 : decode yB 5 = .ok (.ifCond (.ne) 22, 3) := by decide +kernel
theorem d27 : decode yB 27 = .ok (.getstatic 38, 3) := by decide +kernel
theorem d30 : decode yB 30 = .ok (.ifCond (.eq) 28, 3) := by decide +kernel
theorem d33 : decode yB 33 = .ok (.aload_n 1, 1) := by decide +kernel
theorem d34 : decode yB 34 = .ok (.iload_n 2, 1) := by decide +kernel
theorem d35 : decode yB 35 = .ok (.iload_n 3, 1) := by decide +kernel
theorem d36 : decode yB 36 = .ok (.invokestatic 177, 3) := by decide +kernel
theorem d39 : decode yB 39 = .ok (.astore 5, 2) := by decide +kernel
theorem d41 : decode yB 41 = .ok (.aload_n 0, 1) := by decide +kernel
theorem d42 : decode yB 42 = .ok (.aload 5, 2) := by decide +kernel
theorem d44 : decode yB 44 = .ok (.iload_n 3, 1) := by decide +kernel
theorem d45 : decode yB 45 = .ok (.invokestatic 47, 3) := by decide +kernel
theorem d48 : decode yB 48 = .ok (.putfield 15, 3) := by decide +kernel
theorem d51 : decode yB 51 = .ok (.aload_n 0, 1) := by decide +kernel
theorem d52 : decode yB 52 = .ok (.aload 5, 2) := by decide +kernel
theorem d54 : decode yB 54 = .ok (.putfield 9, 3) := by decide +kernel
theorem d57 : decode yB 57 = .ok (.return_, 1) := by decide +kernel
def site : List Cond := [.fieldLink "java/lang/String" 38 "java/lang/String" "COMPACT_STRINGS" "Z", Cmp3.tab, CodL.tab, .laysFinal "java/lang/String" "java/lang/String" "value" "[B", .fieldLink "java/lang/String" 9 "java/lang/String" "value" "[B", .laysFinal "java/lang/String" "java/lang/String" "coder" "B", .fieldLink "java/lang/String" 15 "java/lang/String" "coder" "B"] ++ objW "java/lang/String" 1 ++ staticW "java/lang/String" 177 Cmp3.yN ++ staticW "java/lang/String" 47 CodL.yN
def tab : Cond := tabOf yN yB 6 none site
def P (a : Addr) (D : Cell) (fV fC : Field) (b : Addr) (A : Cell) (z : Int32) (o len : Nat) (args : Array Value) (s : State) : Prop := args = #[.ref a, .ref b, .int (Int32.ofNat o), .int (Int32.ofNat len), .null] ∧ Blank "java/lang/String" a D s ∧ Found "java/lang/String" "value" "[B" fV s ∧ Found "java/lang/String" "coder" "B" fC s ∧ Ch b A s ∧ StaticIs s "java/lang/String" "COMPACT_STRINGS" "Z" (.int z) ∧ ¬ z = 0 ∧ 0 < len ∧ o + len ≤ A.slots.size ∧ len ≤ 536870912 ∧ ∀ i, i < len → ¬ 255 < cv A (o + i)
def E (a : Addr) (D : Cell) (fV fC : Field) (A : Cell) (o len : Nat) (r : Option Value) (s u : State) : Prop := Got a D fV fC A o len r s u
/-- len > 0, no char of the range above 255: a Latin-1 String of their low bytes -/
theorem law (l : Launch) (a : Addr) (D : Cell) (fV fC : Field) (b : Addr) (A : Cell) (z : Int32) (o len : Nat) : Law l yN 5 4 2 35 yB 6 none site (P a D fV fC b A z o len) (E a D fV fC A o len) [⟨a, fC.slot⟩, ⟨a, fV.slot⟩] 1 len := by
  refine Law.of_walk (plainFor_of_name (by decide +kernel)) (by decide +kernel) (by decide +kernel) (by decide) (fun _ _ h => by rw [h.1]; rfl) (fun _ U U' hal hh h => ⟨h.1, h.2.1.mv hal hh, h.2.2.1.al hal, h.2.2.2.1.al hal, h.2.2.2.2.1.mv hal hh, h.2.2.2.2.2.1.there hal hh, h.2.2.2.2.2.2⟩) (fun r U U' V V' h1 hal h2 h => Got.mv r U U' V V' h1 hal h2 h) ?_
  intro p e s m args below meth c s₁ X0 hexec hbytes hml hret hlk hnm hown hh0 W hP
  obtain ⟨rfl, hB, f1, f2, hA, s1, hz, l0, l1, l2, hp⟩ := hP
  have a31 := hA.1.2.2.2
  have c1 : Steps p.tables e below (s₁.setTop (entryFrame m #[.ref a, .ref b, .int (Int32.ofNat o), .int (Int32.ofNat len), .null] 6)) (s₁.setTop (mkF m 0 #[.val (.ref a), .val (.ref b), .val (.int (Int32.ofNat o)), .val (.int (Int32.ofNat len)), .val .null, .unset] [])) := entry rfl
  have c2 : Steps p.tables e below (s₁.setTop (entryFrame m #[.ref a, .ref b, .int (Int32.ofNat o), .int (Int32.ofNat len), .null] 6)) (s₁.setTop (mkF m 1 #[.val (.ref a), .val (.ref b), .val (.int (Int32.ofNat o)), .val (.int (Int32.ofNat len)), .val .null, .unset] [.ref a])) := c1.trans (by
    refine XS.aloadN X0.here hexec rfl (hb hbytes d0) rfl rfl ?_
    exact Steps.refl _)
  obtain ⟨T3, X3, q3, st3⟩ := X0.oinit hexec hown (wks W (objW "java/lang/String" 1)) (g := (mkF m 1 #[.val (.ref a), .val (.ref b), .val (.int (Int32.ofNat o)), .val (.int (Int32.ofNat len)), .val .null, .unset] [.ref a])) rfl (by rw [hml]; rfl) (rest := []) rfl (hb hbytes d1) (W := 0) (by show 2 * 0 + 0 ≤ _; decide) (Nat.le_of_ble_eq_true rfl) (Nat.le_of_ble_eq_true rfl)
  have hh3 := q3.trans hh0
  have c4 : Steps p.tables e below (s₁.setTop (entryFrame m #[.ref a, .ref b, .int (Int32.ofNat o), .int (Int32.ofNat len), .null] 6)) (T3.setTop (mkF m 27 #[.val (.ref a), .val (.ref b), .val (.int (Int32.ofNat o)), .val (.int (Int32.ofNat len)), .val .null, .unset] [])) := (c2.trans (st3 _ (Steps.refl _))).trans (by
    refine XS.iloadN X3.here hexec rfl (hb hbytes d4) rfl ?_
    refine XS.ifYes X3.here hexec rfl (pc0 := 5) rfl (hb hbytes d5) rfl (i0_ne_t (nz32 (by omega) l0)) (by decide) rfl ?_
    exact Steps.refl _)
  obtain ⟨T5, X5, q5, st5⟩ := X3.sget hexec hown (wk W (.fieldLink "java/lang/String" 38 "java/lang/String" "COMPACT_STRINGS" "Z")) s1 (fun _ _ h => by rw [hh3]; exact h) (g := (mkF m 27 #[.val (.ref a), .val (.ref b), .val (.int (Int32.ofNat o)), .val (.int (Int32.ofNat len)), .val .null, .unset] [])) rfl (hb hbytes d27)
  have hh5 := q5.trans hh3
  have c6 : Steps p.tables e below (s₁.setTop (entryFrame m #[.ref a, .ref b, .int (Int32.ofNat o), .int (Int32.ofNat len), .null] 6)) (T5.setTop (mkF m 30 #[.val (.ref a), .val (.ref b), .val (.int (Int32.ofNat o)), .val (.int (Int32.ofNat len)), .val .null, .unset] [.int z])) := c4.trans (st5 _ (Steps.refl _))
  have c7 : Steps p.tables e below (s₁.setTop (entryFrame m #[.ref a, .ref b, .int (Int32.ofNat o), .int (Int32.ofNat len), .null] 6)) (T5.setTop (mkF m 36 #[.val (.ref a), .val (.ref b), .val (.int (Int32.ofNat o)), .val (.int (Int32.ofNat len)), .val .null, .unset] [.int (Int32.ofNat len), .int (Int32.ofNat o), .ref b])) := c6.trans (by
    refine XS.ifNo X5.here hexec rfl (hb hbytes d30) rfl (i0_eq_f hz) ?_
    refine XS.aloadN X5.here hexec rfl (hb hbytes d33) rfl rfl ?_
    refine XS.iloadN X5.here hexec rfl (hb hbytes d34) rfl ?_
    refine XS.iloadN X5.here hexec rfl (hb hbytes d35) rfl ?_
    exact Steps.refl _)
  obtain ⟨v8, T8, X8, E8, g8⟩ := X5.callS hexec (Cmp3.law l b A o len) hown (wks W (staticW "java/lang/String" 177 Cmp3.yN)) (wk W Cmp3.tab) (W := 0) (Nat.le_of_ble_eq_true rfl) (Nat.le_of_ble_eq_true rfl) (Nat.le_refl _) (by show 0 + len ≤ len; omega) (g := (mkF m 36 #[.val (.ref a), .val (.ref b), .val (.int (Int32.ofNat o)), .val (.int (Int32.ofNat len)), .val .null, .unset] [.int (Int32.ofNat len), .int (Int32.ofNat o), .ref b])) rfl (by rw [hml]; rfl) c7 (argsL := [.ref b, .int (Int32.ofNat o), .int (Int32.ofNat len)]) (rest := []) rfl rfl (by show 2 * 0 + 0 ≤ _; decide) (hb hbytes d36) (⟨rfl, hA.mv X5.warmed.alike hh5, l1, l2, hp⟩)
  obtain ⟨e8, z8⟩ := E8
  obtain ⟨rfl, N, n1, n2, n3, n4, n5, n6⟩ := NewArr.mv _ T5 s _ _ hh5.symm (Vm.Alike.refl _) rfl e8
  rw [hh5] at z8
  have hB1 := hB.keep X8.warmed.alike (n6 _ _ hB.1)
  have hne : s.heap.size ≠ a := (Nat.ne_of_lt (Array.getElem?_eq_some_iff.mp hB.1).1).symm
  have c9 : Steps p.tables e below (s₁.setTop (entryFrame m #[.ref a, .ref b, .int (Int32.ofNat o), .int (Int32.ofNat len), .null] 6)) (T8.setTop (mkF m 39 #[.val (.ref a), .val (.ref b), .val (.int (Int32.ofNat o)), .val (.int (Int32.ofNat len)), .val .null, .unset] [.ref s.heap.size])) := g8
  have c10 : Steps p.tables e below (s₁.setTop (entryFrame m #[.ref a, .ref b, .int (Int32.ofNat o), .int (Int32.ofNat len), .null] 6)) (T8.setTop (mkF m 45 #[.val (.ref a), .val (.ref b), .val (.int (Int32.ofNat o)), .val (.int (Int32.ofNat len)), .val .null, .val (.ref s.heap.size)] [.int (Int32.ofNat N.slots.size), .ref s.heap.size, .ref a])) := by
    have hc : Steps p.tables e below (s₁.setTop (entryFrame m #[.ref a, .ref b, .int (Int32.ofNat o), .int (Int32.ofNat len), .null] 6)) (T8.setTop (mkF m 45 #[.val (.ref a), .val (.ref b), .val (.int (Int32.ofNat o)), .val (.int (Int32.ofNat len)), .val .null, .val (.ref s.heap.size)] [.int (Int32.ofNat len), .ref s.heap.size, .ref a])) := c9.trans (by
      refine XS.astore X8.here hexec rfl (hb hbytes d39) rfl rfl rfl ?_
      refine XS.aloadN X8.here hexec rfl (hb hbytes d41) rfl rfl ?_
      refine XS.aload X8.here hexec rfl (hb hbytes d42) rfl rfl ?_
      refine XS.iloadN X8.here hexec rfl (hb hbytes d44) rfl ?_
      exact Steps.refl _)
    rw [n4]; exact hc
  obtain ⟨v11, T11, X11, E11, g11⟩ := X8.callS hexec (CodL.law l s.heap.size N) hown (wks W (staticW "java/lang/String" 47 CodL.yN)) (wk W CodL.tab) (W := 1) (Nat.le_of_ble_eq_true rfl) (Nat.le_of_ble_eq_true rfl) (Nat.le_refl _) (by show 0 + len + 0 ≤ len; omega) (g := (mkF m 45 #[.val (.ref a), .val (.ref b), .val (.int (Int32.ofNat o)), .val (.int (Int32.ofNat len)), .val .null, .val (.ref s.heap.size)] [.int (Int32.ofNat N.slots.size), .ref s.heap.size, .ref a])) rfl (by rw [hml]; rfl) c10 (argsL := [.ref s.heap.size, .int (Int32.ofNat N.slots.size)]) (rest := [.ref a]) rfl rfl (by show 2 * 0 + (1 + 0) ≤ _; decide) (hb hbytes d45) (⟨rfl, n1⟩)
  obtain ⟨rfl, q11⟩ := E11
  have hB11 := hB1.mv (X8.warmed.alike.symm.trans X11.warmed.alike) q11
  have c12 : Steps p.tables e below (s₁.setTop (entryFrame m #[.ref a, .ref b, .int (Int32.ofNat o), .int (Int32.ofNat len), .null] 6)) (T11.setTop (mkF m 48 #[.val (.ref a), .val (.ref b), .val (.int (Int32.ofNat o)), .val (.int (Int32.ofNat len)), .val .null, .val (.ref s.heap.size)] [.int 0, .ref a])) := g11
  obtain ⟨T13, X13, p13, bl13, sl13, st13⟩ := X11.finit hexec hown (wk W (.fieldLink "java/lang/String" 15 "java/lang/String" "coder" "B")) (Or.inr ⟨_, (wk W (.laysFinal "java/lang/String" "java/lang/String" "coder" "B"))⟩) (Or.inl ⟨rfl, hnm⟩) f2 (Or.inl rfl) hB11 (t := .byte) (by decide +kernel) rfl (g := (mkF m 48 #[.val (.ref a), .val (.ref b), .val (.int (Int32.ofNat o)), .val (.int (Int32.ofNat len)), .val .null, .val (.ref s.heap.size)] [.int 0, .ref a])) rfl (rest := []) rfl (hb hbytes d48)
  have c14 : Steps p.tables e below (s₁.setTop (entryFrame m #[.ref a, .ref b, .int (Int32.ofNat o), .int (Int32.ofNat len), .null] 6)) (T13.setTop (mkF m 54 #[.val (.ref a), .val (.ref b), .val (.int (Int32.ofNat o)), .val (.int (Int32.ofNat len)), .val .null, .val (.ref s.heap.size)] [.ref s.heap.size, .ref a])) := (c12.trans (st13 _ (Steps.refl _))).trans (by
    refine XS.aloadN X13.here hexec rfl (hb hbytes d51) rfl rfl ?_
    refine XS.aload X13.here hexec rfl (hb hbytes d52) rfl rfl ?_
    exact Steps.refl _)
  obtain ⟨T15, X15, p15, bl15, sl15, st15⟩ := X13.finit hexec hown (wk W (.fieldLink "java/lang/String" 9 "java/lang/String" "value" "[B")) (Or.inr ⟨_, (wk W (.laysFinal "java/lang/String" "java/lang/String" "value" "[B"))⟩) (Or.inl ⟨rfl, hnm⟩) f1 (Or.inl rfl) bl13 (t := (.array .byte)) (by decide +kernel) rfl (g := (mkF m 54 #[.val (.ref a), .val (.ref b), .val (.int (Int32.ofNat o)), .val (.int (Int32.ofNat len)), .val .null, .val (.ref s.heap.size)] [.ref s.heap.size, .ref a])) rfl (rest := []) rfl (hb hbytes d54)
  have c16 : Steps p.tables e below (s₁.setTop (entryFrame m #[.ref a, .ref b, .int (Int32.ofNat o), .int (Int32.ofNat len), .null] 6)) (T15.setTop (mkF m 57 #[.val (.ref a), .val (.ref b), .val (.int (Int32.ofNat o)), .val (.int (Int32.ofNat len)), .val .null, .val (.ref s.heap.size)] [])) := c14.trans (st15 _ (Steps.refl _))
  have ap := apart (Or.inr ⟨_, (wk W (.laysFinal "java/lang/String" "java/lang/String" "value" "[B"))⟩) (Or.inr ⟨_, (wk W (.laysFinal "java/lang/String" "java/lang/String" "coder" "B"))⟩) f1 f2 (t₁ := .array .byte) (t₂ := .byte) (by decide +kernel) (by decide +kernel) (by decide)
  have al := X8.warmed.alike.symm.trans X15.warmed.alike
  have n7 : T11.heap[s.heap.size]? = some N := by rw [q11]; exact n1.1
  exact ⟨T15, none, _, _, _, X15, by simp, rfl, by omega, (fun _ => rfl), ⟨rfl, _, N, bl15, ((Same.refl D _).set _ (by simp)).set _ (by simp), sl15, (Cell.slots_setSlot_ne _ ap).trans sl13, n1.keep al (p15.other hne (p13.other hne n7)), n2, by rw [al.findClass]; exact n3, n4, n5, fun y c h1 h2 => p15.other h1 (p13.other h1 (by rw [q11]; exact n6 y c h2)), by rw [p15.2.2, p13.2.2, q11]; exact z8⟩, fun fs hl => c16.trans (X15.returnOut hexec hret (hb hbytes d57) hl)⟩
end New4
namespace New1
def yN : MethodName := ⟨"java/lang/String", "<init>", "([C)V"⟩
abbrev yB : ByteArray := jdk_42_method_3_code
theorem d0 : decode yB 0 = .ok (.aload_n 0, 1) := by decide +kernel
theorem d1 : decode yB 1 = .ok (.aload_n 1, 1) := by decide +kernel
theorem d2 : decode yB 2 = .ok (.iconst 0, 1) := by decide +kernel
theorem d3 : decode yB 3 = .ok (.aload_n 1, 1) := by decide +kernel
theorem d4 : decode yB 4 = .ok (.arraylength, 1) := by decide +kernel
theorem d5 : decode yB 5 = .ok (.aconst_null, 1) := by decide +kernel
theorem d6 : decode yB 6 = .ok (.invokespecial 27, 3) := by decide +kernel
theorem d9 : decode yB 9 = .ok (.return_, 1) := by decide +kernel
def site : List Cond := [New4.tab] ++ initW "java/lang/String" 27 New4.yN
def tab : Cond := tabOf yN yB 2 none site
def P (a : Addr) (D : Cell) (fV fC : Field) (b : Addr) (A : Cell) (z : Int32) (args : Array Value) (s : State) : Prop := args = #[.ref a, .ref b] ∧ Blank "java/lang/String" a D s ∧ Found "java/lang/String" "value" "[B" fV s ∧ Found "java/lang/String" "coder" "B" fC s ∧ Ch b A s ∧ StaticIs s "java/lang/String" "COMPACT_STRINGS" "Z" (.int z) ∧ ¬ z = 0 ∧ 0 < A.slots.size ∧ A.slots.size ≤ 536870912 ∧ ∀ i, i < A.slots.size → ¬ 255 < cv A i
def E (a : Addr) (D : Cell) (fV fC : Field) (A : Cell) (r : Option Value) (s u : State) : Prop := Got a D fV fC A 0 A.slots.size r s u
/-- new String(chars), not empty, no char above 255: a Latin-1 String of their low bytes -/
theorem law (l : Launch) (a : Addr) (D : Cell) (fV fC : Field) (b : Addr) (A : Cell) (z : Int32) : Law l yN 2 1 3 52 yB 2 none site (P a D fV fC b A z) (E a D fV fC A) [⟨a, fC.slot⟩, ⟨a, fV.slot⟩] 1 A.slots.size := by
  refine Law.of_walk (plainFor_of_name (by decide +kernel)) (by decide +kernel) (by decide +kernel) (by decide) (fun _ _ h => by rw [h.1]; rfl) (fun _ U U' hal hh h => ⟨h.1, h.2.1.mv hal hh, h.2.2.1.al hal, h.2.2.2.1.al hal, h.2.2.2.2.1.mv hal hh, h.2.2.2.2.2.1.there hal hh, h.2.2.2.2.2.2⟩) (fun r U U' V V' h1 hal h2 h => Got.mv r U U' V V' h1 hal h2 h) ?_
  intro p e s m args below meth c s₁ X0 hexec hbytes hml hret hlk hnm hown hh0 W hP
  obtain ⟨rfl, hB, f1, f2, hA, s1, hz, l0, l2, hp⟩ := hP
  have c1 : Steps p.tables e below (s₁.setTop (entryFrame m #[.ref a, .ref b] 2)) (s₁.setTop (mkF m 0 #[.val (.ref a), .val (.ref b)] [])) := entry rfl
  have c2 : Steps p.tables e below (s₁.setTop (entryFrame m #[.ref a, .ref b] 2)) (s₁.setTop (mkF m 6 #[.val (.ref a), .val (.ref b)] [.null, .int (Int32.ofNat A.slots.size), .int 0, .ref b, .ref a])) := c1.trans (by
    refine XS.aloadN X0.here hexec rfl (hb hbytes d0) rfl rfl ?_
    refine XS.aloadN X0.here hexec rfl (hb hbytes d1) rfl rfl ?_
    refine iconstV X0.here hexec rfl 0 (hb hbytes d2) (by decide) ?_
    refine XS.aloadN X0.here hexec rfl (hb hbytes d3) rfl rfl ?_
    refine X0.alen hexec (hA.1.mv X0.warmed.alike hh0) rfl rfl (hb hbytes d4) ?_
    refine XS.aconstNull X0.here hexec rfl (hb hbytes d5) ?_
    exact Steps.refl _)
  obtain ⟨v3, T3, X3, E3, g3⟩ := X0.callN hexec (New4.law l a D fV fC b A z 0 A.slots.size) rfl hown (wks W (initW "java/lang/String" 27 New4.yN)) (W New4.tab (by simp only [site, List.mem_cons, List.mem_append, true_or, or_true])) (W := 0) (Nat.le_of_ble_eq_true rfl) (Nat.le_of_ble_eq_true rfl) (Nat.le_refl _) (by show 0 + A.slots.size ≤ A.slots.size; omega) (g := (mkF m 6 #[.val (.ref a), .val (.ref b)] [.null, .int (Int32.ofNat A.slots.size), .int (Int32.ofNat 0), .ref b, .ref a])) rfl (by rw [hml]; rfl) c2 (argsL := [.ref b, .int (Int32.ofNat 0), .int (Int32.ofNat A.slots.size), .null]) (rest := []) rfl rfl (by show 2 * 0 + 0 ≤ _; decide) (hb hbytes d6) (⟨rfl, hB.mv X0.warmed.alike hh0, f1.al X0.warmed.alike, f2.al X0.warmed.alike, hA.mv X0.warmed.alike hh0, s1.there X0.warmed.alike hh0, hz, l0, by omega, l2, fun i hi => by rw [Nat.zero_add]; exact hp i hi⟩)
  have e0 := Got.mv _ s₁ s _ _ hh0.symm (Vm.Alike.refl _) rfl E3
  obtain rfl := e0.1
  have c4 : Steps p.tables e below (s₁.setTop (entryFrame m #[.ref a, .ref b] 2)) (T3.setTop (mkF m 9 #[.val (.ref a), .val (.ref b)] [])) := g3
  exact ⟨T3, none, _, _, _, X3, by simp, rfl, by omega, (fun _ => rfl), e0, fun fs hl => c4.trans (X3.returnOut hexec hret (hb hbytes d9) hl)⟩
theorem pays {l : Launch} {R : Room} {p : Program} {e : Env} {below : List Frame} {s : State} {sargs : Array Value} {len W : Nat} (a : Addr) (D : Cell) (fV fC : Field) (b : Addr) (A : Cell) (z : Int32) (htab : tab.before sargs s = true) (hfr : 4 ≤ R.frames) (hlo : W + 65 ≤ R.locals) :
    Back l R p e below s sargs yN len W (fun A₁ a₁ => A₁.cells + 1 ≤ R.cells ∧ A₁.slots + A.slots.size ≤ R.slots ∧ P a D fV fC b A z a₁ A₁.U) (fun A₁ _ v₁ B₁ => E a D fV fC A v₁ A₁.U B₁.U ∧ B₁.locs = A₁.locs ++ [⟨a, fC.slot⟩, ⟨a, fV.slot⟩] ∧ B₁.cells = A₁.cells + 1 ∧ B₁.slots = A₁.slots + A.slots.size) :=
  (law l a D fV fC b A z).pays htab hfr (by omega)
end New1
/-- the byte, read back as charAt reads it, is the char -/
theorem lo8_mask {x : Int32} (h0 : ¬ x < 0) (h1 : ¬ 255 < x) : lo8 x &&& 255 = x := by
  have t : ∀ k : Fin 256, lo8 (Int32.ofNat k.val) &&& 255 = Int32.ofNat k.val := by decide +kernel
  rw [Int32.lt_iff_toInt_lt] at h0 h1
  have e0 : (0 : Int32).toInt = 0 := rfl
  have e1 : (255 : Int32).toInt = 255 := rfl
  obtain ⟨k, hk⟩ : ∃ k : Nat, x.toInt = k := ⟨x.toInt.toNat, by omega⟩
  have hx : x = Int32.ofNat k := Int32.toInt_inj.mp (by rw [hk, Int32.toInt_ofNat_small (by omega)])
  rw [hx]
  exact t ⟨k, by omega⟩
end StrChars
namespace StrChars.Road
open Jvm Sem ClassFile Op Lib Jvm.Stand Jvm.Free Jvm.Free.XT
open Jvm.Lib.Cold (StaticIs)
abbrev ST : String := "java/lang/String"
/-- every table word that New1's law asks, flat -/
abbrev words : List Jvm.Cond := [.code New1.yN New1.yB 2 none, .initialized ST, .methodLink ST 27 New4.yN, .instanceMethod New4.yN,
  .code New4.yN New4.yB 6 none, .fieldLink ST 38 ST "COMPACT_STRINGS" "Z", .laysFinal ST ST "value" "[B", .fieldLink ST 9 ST "value" "[B", .laysFinal ST ST "coder" "B", .fieldLink ST 15 ST "coder" "B",
  .methodLink ST 1 Lib.objectInit, .instanceMethod Lib.objectInit, .code Lib.objectInit ⟨#[0xb1]⟩ 1 none, .methodLink ST 177 Cmp3.yN, .static Cmp3.yN, .methodLink ST 47 CodL.yN, .static CodL.yN,
  .code Cmp3.yN Cmp3.yB 6 (some (.array .byte)), .initialized U16, .arrayClass .byte, .methodLink U16 115 Cmp5.yN, .static Cmp5.yN, .code Cmp5.yN Cmp5.yB 7 (some .int), .code CodL.yN CodL.yB 2 (some .byte)]
theorem tab_of {a : Array Value} {s : State} (h : ∀ w ∈ words, w.before a s = true) : New1.tab.before a s = true := by
  have h5 : Cmp5.tab.before a s = true := unparts (wk h (.code Cmp5.yN Cmp5.yB 7 (some .int))) (wks h (.initialized Cmp5.yN.cls :: Cmp5.site))
  have hc : CodL.tab.before a s = true := unparts (wk h (.code CodL.yN CodL.yB 2 (some .byte))) (wks h (.initialized CodL.yN.cls :: CodL.site))
  have q5 : ∀ w ∈ Cmp5.tab :: words, w.before a s = true := fun w hw => (List.mem_cons.mp hw).elim (fun e => e ▸ h5) (h w)
  have h3 : Cmp3.tab.before a s = true := unparts (wk q5 (.code Cmp3.yN Cmp3.yB 6 (some (.array .byte)))) (wks q5 (.initialized Cmp3.yN.cls :: Cmp3.site))
  have q3 : ∀ w ∈ Cmp3.tab :: CodL.tab :: words, w.before a s = true := fun w hw => (List.mem_cons.mp hw).elim (fun e => e ▸ h3) fun hw => (List.mem_cons.mp hw).elim (fun e => e ▸ hc) (h w)
  have h4 : New4.tab.before a s = true := unparts (wk q3 (.code New4.yN New4.yB 6 none)) (wks q3 (.initialized New4.yN.cls :: New4.site))
  have q4 : ∀ w ∈ New4.tab :: words, w.before a s = true := fun w hw => (List.mem_cons.mp hw).elim (fun e => e ▸ h4) (h w)
  exact unparts (wk q4 (.code New1.yN New1.yB 2 none)) (wks q4 (.initialized New1.yN.cls :: New1.site))
/-- the words ride from the start Z to the walk's own state -/
theorem moved {Z s : State} {a0 args : Array Value} (hZ : Z.Warmed39 s.vm) (hw : ∀ d ∈ words, d.before a0 Z = true) : ∀ d ∈ words, d.before args s = true := fun d hd => by
  have q := hw d hd
  have t : ∀ d ∈ words, d = .arrayClass .byte ∨ (d.onTables && d.keepsFace) = true := by decide +kernel
  rcases t d hd with rfl | t
  · exact RoadKit.mvA hZ q
  · exact RoadKit.mv hZ q t
/-- WHAT COMES BACK, over the tables of the start Z: h the heap at the call, h' behind it -/
def Q (Z : State) (x : Addr) (A : Cell) (h : Heap) (v : Option Value) (h' : Heap) (L : List Loc) : Prop := v = none ∧ (∀ y ∈ L, y.base = x) ∧ RoadKit.Keep h h' [x] ∧ h'.size = h.size + 1 ∧ RoadKit.Exa Z h' x ST ∧ RoadKit.Fld Z h' x ST "value" "[B" (.ref h.size) ∧ RoadKit.Fld Z h' x ST "coder" "B" (.int 0) ∧
  (∃ V : Cell, RoadKit.Arr Z h' h.size V .byte ∧ V.vm = .none ∧ Z.vm.findClass "[B" = some V.cls ∧ V.slots.size = A.slots.size ∧ ∀ j, j < A.slots.size → V.slots[j]? = some (.int (lo8 (cv A j)))) ∧
  ∀ (O n d : String) (w : Value), RoadKit.Fld Z h x O n d w → RoadKit.slotOf Z O n d ≠ RoadKit.slotOf Z ST "value" "[B" → RoadKit.slotOf Z O n d ≠ RoadKit.slotOf Z ST "coder" "B" → RoadKit.Fld Z h' x O n d w
/-- **new String(chars) AT A CALL, IN THE ROAD'S FORM**: for specialBack behind newO: x the fresh String, b the char[] with the cell A -/
theorem back {p : Program} {l : Launch} {e : Env} {R : Room} {s : State} {args : Array Value} {below : List Frame} {len W : Nat} {Z : State} {a0 : Array Value} {h : Heap} (hZ : Z.Warmed39 s.vm) (hw : ∀ d ∈ words, d.before a0 Z = true) {kI : Nat} (wi : (Jvm.Cond.instantiable ST kI).before a0 Z = true)
    {x b : Addr} {A : Cell} {z : Int32} {v0 c0 : Value} (E : RoadKit.Exa Z h x ST) (V : RoadKit.Fld Z h x ST "value" "[B" v0) (C : RoadKit.Fld Z h x ST "coder" "B" c0) (K : RoadKit.Arr Z h b A .char) (hty : Typed .char A) (S : RoadKit.Sta Z h ST "COMPACT_STRINGS" "Z" (.int z)) (hz : ¬ z = 0)
    (l0 : 0 < A.slots.size) (l2 : A.slots.size ≤ 536870912) (hp : ∀ i, i < A.slots.size → ¬ 255 < cv A i) (hfr : 4 ≤ R.frames) (hlo : W + 65 ≤ R.locals) :
    Back l R p e below s args New1.yN len W (fun P a => a = #[.ref x, .ref b] ∧ P.U.heap = h ∧ P.cells + 1 ≤ R.cells ∧ P.slots + A.slots.size ≤ R.slots)
      (fun P _ v B => ∃ L, Q Z x A h v B.U.heap L ∧ B.locs = P.locs ++ L ∧ B.cells = P.cells + 1 ∧ B.slots = P.slots + A.slots.size) := by
  intro m meth c P g ig mk a X hg hsize hdg hW hn hp'
  obtain ⟨rfl, rfl, r1, r2⟩ := hp'
  have al : Z.vm.Alike P.U.vm := hZ.alike.trans X.warmed.alike
  obtain ⟨D, cfV, kV, iV, fV, hD, gV, stV, knV, obV, asV, slV⟩ := id V
  obtain ⟨D', cfC, kC, iC, fC, hD', gC, stC, -, -, asC, slC⟩ := id C
  cases hD.symm.trans hD'
  obtain ⟨D2, kD, e1, e2, e3, e4, e5⟩ := id E
  cases hD.symm.trans e1
  obtain ⟨c2, k2, i1, i2, i3, -⟩ := Cond.instantiable_spec wi
  cases e2.symm.trans i1
  cases e3.symm.trans i2
  obtain ⟨kU, u1, u2⟩ := al.2.2 _ _ e3
  have hB : Blank ST x D P.U := ⟨hD, ⟨knV, fun q hq => by rw [hq] at obV; cases obV⟩, by rw [al.findClass]; exact e2, kU, u1, by rw [u2]; exact i3, by rw [u2]; exact e5 i3⟩
  have F1 : Found ST "value" "[B" fV P.U := ⟨SBG.found_only al ⟨cfV, kV, iV, gV⟩, stV⟩
  have F2 : Found ST "coder" "B" fC P.U := ⟨SBG.found_only al ⟨cfC, kC, iC, gC⟩, stC⟩
  have hA : Ch b A P.U := ⟨⟨K.1, State.isArrayOf_alike al K.2.1, K.2.2, by omega⟩, hty⟩
  have hS : StaticIs P.U ST "COMPACT_STRINGS" "Z" (.int z) := by
    obtain ⟨cfS, iS, kS, fS, st, cS, t1, t2, t3, t4, t5, t6, t7⟩ := S
    exact StaticIs.there (s := { Z with heap := P.U.heap }) ⟨cfS, iS, kS, fS, st, cS, t1, t2, t3, t4, t5, (fun q => by rw [q] at t6; cases t6), t7⟩ al rfl
  obtain ⟨v, B, X', ⟨⟨hv, E', V', q1, q2, q3, q4, q5, q6, q7, q8, q9, q10, q11⟩, hl, hc, hs⟩, st⟩ := New1.pays x D fV fC b A z (tab_of (moved hZ hw)) hfr hlo m meth c P g ig mk _ X hg hsize hdg hW hn ⟨r1, r2, rfl, hB, F1, F2, hA, hS, hz, l0, l2, hp⟩
  have al' : Z.vm.Alike B.U.vm := hZ.alike.trans X'.warmed.alike
  have hsz : E'.slots.size = D.slots.size := by
    obtain ⟨-, -, -, kB, w1, w2, w3⟩ := q1
    obtain ⟨kB', y1, y2⟩ := al'.2.2 _ _ e3
    rw [q2.2.1] at w1
    cases w1.symm.trans y1
    rw [w3, e5 i3, y2]
  refine ⟨v, B, X', ⟨_, ⟨hv, ?_, ⟨by omega, fun y cy hy hn' => q10 y cy (by simpa using hn') hy, fun y cy hy => ?_⟩, q11, ⟨E', _, q1.1, by rw [q2.2.1]; exact e2, by rw [q2.2.1]; exact e3, by rw [q2.1]; exact obV, fun _ => by rw [hsz]; exact e5 i3⟩,
    ⟨E', cfV, kV, iV, fV, q1.1, gV, stV, by rw [q2.1]; exact knV, by rw [q2.1]; exact obV, by rw [q2.2.1]; exact asV, q3⟩, ⟨E', cfC, kC, iC, fC, q1.1, gC, stC, by rw [q2.1]; exact knV, by rw [q2.1]; exact obV, by rw [q2.2.1]; exact asC, q4⟩,
    ⟨V', ⟨q5.1, State.isArrayOf_alike al'.symm q5.2.1, q5.2.2.1⟩, q6, by rw [← al'.findClass]; exact q7, q8, fun j hj => by have := q9 j hj; rwa [Nat.zero_add] at this⟩, fun O n d w F n1 n2 => ?_⟩, hl, hc, hs⟩, st⟩
  · intro y hy
    simp only [List.mem_cons, List.not_mem_nil, or_false] at hy
    rcases hy with rfl | rfl <;> rfl
  · by_cases q : y = x
    · subst q
      cases hD.symm.trans hy
      exact ⟨E', q1.1, q2.2.1, q2.1, hsz⟩
    · exact ⟨cy, q10 y cy q hy, rfl, rfl, rfl⟩
  · obtain ⟨D3, cf, k, i, f, g1, g2, g3, g4, g5, g6, g7⟩ := F
    cases hD.symm.trans g1
    simp only [RoadKit.slotOf, g2, gV, gC, Option.map_some, Option.getD_some] at n1 n2
    exact ⟨E', cf, k, i, f, q1.1, g2, g3, by rw [q2.1]; exact g4, by rw [q2.1]; exact g5, by rw [q2.2.1]; exact g6, by rw [q2.2.2 f.slot (by simp [n1, n2])]; exact g7⟩
end StrChars.Road
namespace StrChars.Road
open Jvm Sem ClassFile Op Lib Jvm.Stand Jvm.Free Jvm.Free.XT
/-- WHAT COMES BACK, the byte[] as a list of values -/
def QA (Z : State) (x : Addr) (zn : Int32) (cs : List Int32) (h : Heap) (v : Option Value) (h' : Heap) (L : List Loc) : Prop := v = none ∧ (∀ y ∈ L, y.base = x) ∧ RoadKit.Keep h h' [x] ∧ h'.size = h.size + 1 ∧ RoadKit.Exa Z h' x ST ∧ RoadKit.Fld Z h' x ST "value" "[B" (.ref h.size) ∧ RoadKit.Fld Z h' x ST "coder" "B" (.int 0) ∧
  (∃ kb, Z.vm.findClass "[B" = some kb ∧ RoadKit.Arv Z h' h.size kb .byte zn (cs.map fun c => .int (lo8 c)) (.int 0)) ∧
  ∀ (O n d : String) (w : Value), RoadKit.Fld Z h x O n d w → RoadKit.slotOf Z O n d ≠ RoadKit.slotOf Z ST "value" "[B" → RoadKit.slotOf Z O n d ≠ RoadKit.slotOf Z ST "coder" "B" → RoadKit.Fld Z h' x O n d w
/-- **new String(chars) AT A CALL, THE ARRAYS AS LISTS**: the char[] at b holds cs, not empty, no char above 255 -/
theorem backArv {p : Program} {l : Launch} {e : Env} {R : Room} {s : State} {args : Array Value} {below : List Frame} {len W : Nat} {Z : State} {a0 : Array Value} {h : Heap} (hZ : Z.Warmed39 s.vm) (hw : ∀ d ∈ words, d.before a0 Z = true) {kI : Nat} (wi : (Jvm.Cond.instantiable ST kI).before a0 Z = true)
    {x b : Addr} {k : ClassId} {zn z : Int32} {cs : List Int32} {dv v0 c0 : Value} (E : RoadKit.Exa Z h x ST) (V : RoadKit.Fld Z h x ST "value" "[B" v0) (C : RoadKit.Fld Z h x ST "coder" "B" c0) (K : RoadKit.Arv Z h b k .char zn (cs.map Value.int) dv) (S : RoadKit.Sta Z h ST "COMPACT_STRINGS" "Z" (.int z)) (hz : ¬ z = 0)
    (hlen : zn.toNatClampNeg = cs.length) (h0 : 0 < cs.length) (hbig : cs.length ≤ 536870912) (hall : ∀ c ∈ cs, ¬ 255 < c) (hfr : 4 ≤ R.frames) (hlo : W + 65 ≤ R.locals) :
    Back l R p e below s args New1.yN len W (fun P a => a = #[.ref x, .ref b] ∧ P.U.heap = h ∧ P.cells + 1 ≤ R.cells ∧ P.slots + cs.length ≤ R.slots)
      (fun P _ v B => ∃ L, QA Z x zn cs h v B.U.heap L ∧ B.locs = P.locs ++ L ∧ B.cells = P.cells + 1 ∧ B.slots = P.slots + cs.length) := by
  obtain ⟨A, K1, K2, K3, K4, K5, K6⟩ := K
  have e : A.slots.size = cs.length := K3.trans hlen
  have hat : ∀ (i : Nat) (hi : i < cs.length), A.slots[i]? = some (.int cs[i]) := fun i hi => by rw [K5 i (by omega)]; simp [List.getD_eq_getElem?_getD, hi]
  have hcv : ∀ (i : Nat) (hi : i < cs.length), cv A i = cs[i] := fun i hi => by unfold cv; rw [hat i hi]
  have hty : Typed .char A := fun i v hv => by
    have hi : i < A.slots.size := (Array.getElem?_eq_some_iff.mp hv).1
    have q := K5 i hi
    rw [hv] at q
    rw [Option.some.inj q]
    exact K6 i hi
  refine Back.mono (back hZ hw wi E V C K1 hty S hz (by omega) (by omega) (fun i hi => by rw [hcv i (by omega)]; exact hall _ (List.getElem_mem _)) hfr hlo) (fun P a hp => ⟨hp.1, hp.2.1, hp.2.2.1, by rw [e]; exact hp.2.2.2⟩) (fun P a v B hp hq => ?_)
  obtain ⟨L, ⟨q1, q2, q3, q4, q5, q6, q7, ⟨V', v1, v2, v3, v4, v5⟩, q9⟩, hl, hc, hs⟩ := hq
  refine ⟨L, ⟨q1, q2, q3, q4, q5, q6, q7, ⟨V'.cls, v3, V', v1, rfl, by rw [v4, e, hlen], K4, fun i hi => ?_, fun i hi => ?_⟩, q9⟩, hl, hc, by rw [hs, e]⟩
  · have hi' : i < cs.length := by omega
    rw [v5 i (by omega), hcv i hi']; simp [List.getD_eq_getElem?_getD, hi']
  · have hi' : i < cs.length := by omega
    simp only [List.getD_eq_getElem?_getD, List.getElem?_map, List.getElem?_eq_getElem hi', Option.map_some, Option.getD_some]
    exact fits_lo8 _
end StrChars.Road
namespace StrChars.Road
open Jvm Sem ClassFile Op Lib Jvm.Stand Jvm.Free Jvm.Free.XT
/-- WHAT COMES BACK, in the writer's own shape -/
def QV (Z : State) (x : Addr) (N : Int32) (bs : List Int32) (h : Heap) (n0 : Nat) (v : Option Value) (h' : Heap) (L : List Loc) : Prop := v = none ∧ RoadKit.Fr n0 L ∧ RoadKit.Keep h h' [x] ∧ RoadKit.Exa Z h' x ST ∧ RoadKit.Fld Z h' x ST "coder" "B" (.int 0) ∧
  ∃ (t : Addr) (kb : ClassId), n0 ≤ t ∧ h.size ≤ t ∧ ¬ t = x ∧ RoadKit.Fld Z h' x ST "value" "[B" (.ref t) ∧ RoadKit.Arv Z h' t kb .byte N (bs.map Value.int) (.int 0)
/-- **new String(chars) AT A CALL, FOR THE WRITER**: a char[] of n known ints, each 0 to 255 -/
theorem backV {p : Program} {l : Launch} {e : Env} {R : Room} {s : State} {args : Array Value} {below : List Frame} {len W : Nat} {Z : State} {a0 : Array Value} {h : Heap} (hZ : Z.Warmed39 s.vm) (hw : ∀ d ∈ words, d.before a0 Z = true) {kI : Nat} (wi : (Jvm.Cond.instantiable ST kI).before a0 Z = true)
    {x b : Addr} {kC : ClassId} {cs bs : List Int32} {d v0 c0 : Value} {z N : Int32} {n n0 : Nat} (hx0 : n0 ≤ x) (hh0 : n0 ≤ h.size) (E : RoadKit.Exa Z h x ST) (V : RoadKit.Fld Z h x ST "value" "[B" v0) (C : RoadKit.Fld Z h x ST "coder" "B" c0) (K : RoadKit.Arv Z h b kC .char N (cs.map Value.int) d) (S : RoadKit.Sta Z h ST "COMPACT_STRINGS" "Z" (.int z)) (hz : ¬ z = 0)
    (hn : cs.length = n) (hN : N = Int32.ofNat n) (l0 : 0 < n) (l2 : n ≤ 4000) (hp : ∀ c ∈ cs, ¬ c < 0 ∧ ¬ (255 : Int32) < c) (hb : bs = cs.map (fun c => c.toInt8.toInt32)) (hfr : 4 ≤ R.frames) (hlo : W + 65 ≤ R.locals) :
    Back l R p e below s args (⟨"java/lang/String", "<init>", "([C)V"⟩ : MethodName) len W (fun P a => a = #[.ref x, .ref b] ∧ P.U.heap = h ∧ P.cells + 1 ≤ R.cells ∧ P.slots + n ≤ R.slots)
      (fun P _ v B => ∃ L, QV Z x N bs h n0 v B.U.heap L ∧ B.locs = P.locs ++ L ∧ B.cells = P.cells + 1 ∧ B.slots = P.slots + n) := by
  subst hn hN hb
  refine Back.mono (backArv hZ hw wi E V C K S hz (n32 (by omega)) l0 (by omega) (fun c hc => (hp c hc).2) hfr hlo) (fun P a hp => hp) (fun P a v B hp hq => ?_)
  obtain ⟨L, ⟨q1, q2, q3, q4, q5, q6, q7, ⟨kb, v1, v2⟩, q9⟩, hl, hc, hs⟩ := hq
  exact ⟨L, ⟨q1, fun y hy => by rw [q2 y hy]; exact hx0, q3, q5, q7, h.size, kb, hh0, Nat.le_refl _, Nat.ne_of_gt E.lt, q6, by rw [List.map_map]; exact v2⟩, hl, hc, hs⟩
end StrChars.Road
namespace StrChars
open Jvm Sem ClassFile Op Lib Jvm.Stand Jvm.Free.XT Jvm.Free.ALB Jvm.Free.JM Jvm.Free
open Jvm.Lib.Cold (StaticIs)
def hi8 (x : Int32) : Int32 := lo8 (x >>> ((8 : Int32) &&& 31))
/-- what StringUTF16.getChar makes of two bytes -/
def pairCh (u v : Int32) : Int32 := (((u &&& 255) <<< ((0 : Int32) &&& 31)) ||| ((v &&& 255) <<< ((8 : Int32) &&& 31))).toUInt32.toUInt16.toUInt32.toInt32
theorem lo8_and (x : Int32) : (lo8 x &&& 255).toBitVec.toNat = x.toBitVec.toNat % 256 := by
  have h : (lo8 x).toBitVec = (x.toBitVec.signExtend 8).signExtend 32 := by rw [lo8, Int8.toBitVec_toInt32, Int32.toBitVec_toInt8]
  rw [Int32.toBitVec_and, BitVec.toNat_and, h]
  have e : ((x.toBitVec.signExtend 8).signExtend 32).toNat % 256 = x.toBitVec.toNat % 256 := by
    rw [BitVec.toNat_signExtend]
    have hlt := x.toBitVec.isLt
    simp only [BitVec.toNat_setWidth, BitVec.toNat_signExtend]
    split <;> split <;> omega
  rw [← e]
  exact Nat.and_two_pow_sub_one_eq_mod _ 8
theorem pair_says {c : Int32} (h0 : ¬ c < 0) (h1 : ¬ 65535 < c) : pairCh (lo8 c) (hi8 c) = c := by
  rw [Int32.lt_iff_toInt_lt] at h0 h1
  have e0 : (0 : Int32).toInt = 0 := rfl
  have e1 : (65535 : Int32).toInt = 65535 := rfl
  have hc : c.toInt = c.toBitVec.toNat := by
    have := c.toBitVec.isLt
    have e : c.toInt = c.toBitVec.toInt := rfl
    rw [e] at h0 h1
    rw [e]
    rw [BitVec.toInt_eq_toNat_cond] at h0 h1 ⊢
    split at h0 <;> split <;> omega
  have hn : c.toBitVec.toNat < 65536 := by omega
  have a1 := lo8_and c
  have a2 : (hi8 c &&& 255).toBitVec.toNat = c.toBitVec.toNat / 256 := by
    rw [hi8, lo8_and]
    have e : ((8 : Int32) &&& 31) = 8 := by decide
    rw [e, Int32.toBitVec_shiftRight]
    have e2 : ((8 : Int32).toBitVec.smod 32) = 8#32 := by decide
    rw [e2, BitVec.sshiftRight_eq', BitVec.toNat_sshiftRight_of_msb_false (by rw [BitVec.msb_eq_false_iff_two_mul_lt]; omega)]
    show c.toBitVec.toNat >>> 8 % 256 = _
    rw [Nat.shiftRight_eq_div_pow]
    omega
  unfold pairCh
  apply Int32.toBitVec_inj.mp
  apply BitVec.eq_of_toNat_eq
  have f0 : ((0 : Int32) &&& 31) = 0 := by decide
  have f8 : ((8 : Int32) &&& 31) = 8 := by decide
  rw [f0, f8]
  have g : (((lo8 c &&& 255) <<< (0 : Int32)) ||| ((hi8 c &&& 255) <<< (8 : Int32))).toBitVec.toNat = c.toBitVec.toNat := by
    rw [Int32.toBitVec_or, Int32.toBitVec_shiftLeft, Int32.toBitVec_shiftLeft]
    have s0 : ((0 : Int32).toBitVec.smod 32) = 0#32 := by decide
    have s8 : ((8 : Int32).toBitVec.smod 32) = 8#32 := by decide
    rw [s0, s8, BitVec.toNat_or]
    simp only [BitVec.shiftLeft_eq', BitVec.toNat_shiftLeft, a1, a2]
    show (c.toBitVec.toNat % 256) <<< 0 % 2 ^ 32 ||| (c.toBitVec.toNat / 256) <<< 8 % 2 ^ 32 = _
    rw [Nat.shiftLeft_zero, Nat.mod_eq_of_lt (show c.toBitVec.toNat % 256 < 2 ^ 32 by omega), Nat.mod_eq_of_lt (show (c.toBitVec.toNat / 256) <<< 8 < 2 ^ 32 by rw [Nat.shiftLeft_eq]; omega), Nat.or_comm, ← Nat.shiftLeft_add_eq_or_of_lt (by omega), Nat.shiftLeft_eq]
    omega
  show BitVec.toNat (((((lo8 c &&& 255) <<< (0 : Int32)) ||| ((hi8 c &&& 255) <<< (8 : Int32))).toBitVec.setWidth 16).setWidth 32) = _
  rw [BitVec.toNat_setWidth, BitVec.toNat_setWidth, g]
  omega
end StrChars
namespace StrChars
open Jvm Sem ClassFile Op Lib Jvm.Stand Jvm.Free.XT Jvm.Free.ALB Jvm.Free.JM Jvm.Free
open Jvm.Lib.Cold (StaticIs)
/-- the array's cell V codes the n chars f 0 .. f (n - 1) by the coder cd, as the JDK does: coder 1 just where some char is above 255 -/
def Cod (cd : Int32) (n : Nat) (f : Nat → Int32) (V : Cell) : Prop := (cd = 0 ∧ V.slots.size = n ∧ ∀ j, j < n → V.slots[j]? = some (.int (lo8 (f j))) ∧ ¬ 255 < f j) ∨ (cd = 1 ∧ V.slots.size = 2 * n ∧ (∀ j, j < n → V.slots[2 * j]? = some (.int (lo8 (f j))) ∧ V.slots[2 * j + 1]? = some (.int (hi8 (f j)))) ∧ ∃ j, j < n ∧ 255 < f j)
/-- **x is a String of the n chars f 0 .. f (n - 1)**, Latin-1 or UTF-16; its array at t has the cell V -/
def Txt (x t : Addr) (V : Cell) (cd : Int32) (n : Nat) (f : Nat → Int32) (U : State) : Prop := Exact "java/lang/String" x U ∧ Has x "java/lang/String" "value" "[B" (.ref t) U ∧ Has x "java/lang/String" "coder" "B" (.int cd) U ∧ XT.Arr .byte t V U ∧ Cod cd n f V ∧ ∀ j, j < n → ¬ f j < 0 ∧ ¬ 65535 < f j
theorem Txt.mv {x t : Addr} {V : Cell} {cd : Int32} {n : Nat} {f : Nat → Int32} {U U' : State} (h : Txt x t V cd n f U) (hal : U.vm.Alike U'.vm) (hh : U'.heap = U.heap) : Txt x t V cd n f U' := ⟨h.1.mv hal hh, h.2.1.mv hal hh, h.2.2.1.mv hal hh, h.2.2.2.1.mv hal hh, h.2.2.2.2⟩
end StrChars
namespace StrChars.Road
open Jvm Sem ClassFile Op Lib Jvm.Stand Jvm.Free Jvm.Free.XT
open Jvm.Lib.Cold (StaticIs)
theorem consq {a : Array Value} {s : State} {c : Jvm.Cond} {L : List Jvm.Cond} (h0 : c.before a s = true) (h : ∀ w ∈ L, w.before a s = true) : ∀ w ∈ c :: L, w.before a s = true := fun w hw => (List.mem_cons.mp hw).elim (fun e => e ▸ h0) (h w)
/-- the bytes of the chars cs, low before high -/
def wideBytes : List Int32 → List Value
  | [] => []
  | c :: cs => .int (lo8 c) :: .int (hi8 c) :: wideBytes cs
theorem wide_lo (d : Value) : ∀ (cs : List Int32) (j : Nat), j < cs.length → (wideBytes cs).getD (2 * j) d = .int (lo8 (cs.getD j 0))
  | [], j, h => absurd h (Nat.not_lt_zero j)
  | c :: cs, 0, _ => rfl
  | c :: cs, j + 1, h => by
    have q := wide_lo d cs j (by simpa using h)
    rw [show 2 * (j + 1) = 2 * j + 1 + 1 from by omega]
    simpa [wideBytes] using q
theorem wide_hi (d : Value) : ∀ (cs : List Int32) (j : Nat), j < cs.length → (wideBytes cs).getD (2 * j + 1) d = .int (hi8 (cs.getD j 0))
  | [], j, h => absurd h (Nat.not_lt_zero j)
  | c :: cs, 0, _ => rfl
  | c :: cs, j + 1, h => by
    have q := wide_hi d cs j (by simpa using h)
    rw [show 2 * (j + 1) + 1 = 2 * j + 1 + 1 + 1 from by omega]
    simpa [wideBytes] using q
theorem low_at (d : Value) (cs : List Int32) (j : Nat) (h : j < cs.length) : (cs.map fun c => Value.int (lo8 c)).getD j d = .int (lo8 (cs.getD j 0)) := by
  simp [List.getD_eq_getElem?_getD, h]
/-- an array of N2 bytes vs codes the chars cs by the coder cd -/
def CodA (cs : List Int32) (cd N2 : Int32) (vs : List Value) : Prop := (cd = 0 ∧ N2 = Int32.ofNat cs.length ∧ vs = (cs.map fun c => Value.int (lo8 c)) ∧ ∀ c ∈ cs, ¬ 255 < c) ∨ (cd = 1 ∧ N2 = Int32.ofNat (2 * cs.length) ∧ vs = wideBytes cs ∧ ∃ c ∈ cs, 255 < c)
theorem CodA.cod {cs : List Int32} {cd N2 : Int32} {vs : List Value} {V : Cell} (h : CodA cs cd N2 vs) (hn : 2 * cs.length < 2 ^ 31) (hs : V.slots.size = N2.toNatClampNeg) (hv : RoadKit.Has V vs (.int 0)) : Cod cd cs.length (fun j => cs.getD j 0) V := by
  rcases h with ⟨rfl, rfl, rfl, h⟩ | ⟨rfl, rfl, rfl, c, hc, hw⟩
  · rw [n32 (by omega)] at hs
    exact Or.inl ⟨rfl, hs, fun j hj => ⟨by rw [hv j (by omega), low_at _ _ _ hj], by
      have e : cs.getD j 0 = cs[j] := by simp [List.getD_eq_getElem?_getD, hj]
      show ¬ 255 < cs.getD j 0
      rw [e]; exact h _ (List.getElem_mem _)⟩⟩
  · rw [n32 (by omega)] at hs
    obtain ⟨j, hj, rfl⟩ := List.getElem_of_mem hc
    exact Or.inr ⟨rfl, hs, fun j hj => ⟨by rw [hv _ (by omega), wide_lo _ _ _ hj], by rw [hv _ (by omega), wide_hi _ _ _ hj]⟩, j, hj, by
      have e : cs.getD j 0 = cs[j] := by simp [List.getD_eq_getElem?_getD, hj]
      show 255 < cs.getD j 0
      rw [e]; exact hw⟩
/-- an object of exactly java/lang/String, its two fields found: as the laws ask it -/
theorem strObj {Z U : State} {a0 : Array Value} {kI : Nat} (wi : (Jvm.Cond.instantiable ST kI).before a0 Z = true) (al : Z.vm.Alike U.vm) {x : Addr} {v0 c0 : Value} (E : RoadKit.Exa Z U.heap x ST) (V : RoadKit.Fld Z U.heap x ST "value" "[B" v0) (C : RoadKit.Fld Z U.heap x ST "coder" "B" c0) :
    ∃ (D : Cell) (fV fC : Field), Blank ST x D U ∧ Found ST "value" "[B" fV U ∧ Found ST "coder" "B" fC U ∧ D.slots[fV.slot]? = some v0 ∧ D.slots[fC.slot]? = some c0 ∧ RoadKit.slotOf Z ST "value" "[B" = fV.slot ∧ RoadKit.slotOf Z ST "coder" "B" = fC.slot := by
  obtain ⟨D, cfV, kV, iV, fV, hD, gV, stV, knV, obV, asV, slV⟩ := V
  obtain ⟨D', cfC, kC, iC, fC, hD', gC, stC, -, -, asC, slC⟩ := C
  cases hD.symm.trans hD'
  obtain ⟨D2, kD, e1, e2, e3, e4, e5⟩ := E
  cases hD.symm.trans e1
  obtain ⟨c2, k2, i1, i2, i3, -⟩ := Cond.instantiable_spec wi
  cases e2.symm.trans i1
  cases e3.symm.trans i2
  obtain ⟨kU, u1, u2⟩ := al.2.2 _ _ e3
  exact ⟨D, fV, fC, ⟨hD, ⟨knV, fun q hq => by rw [hq] at obV; cases obV⟩, by rw [al.findClass]; exact e2, kU, u1, by rw [u2]; exact i3, by rw [u2]; exact e5 i3⟩, ⟨SBG.found_only al ⟨cfV, kV, iV, gV⟩, stV⟩, ⟨SBG.found_only al ⟨cfC, kC, iC, gC⟩, stC⟩, slV, slC, by simp [RoadKit.slotOf, gV], by simp [RoadKit.slotOf, gC]⟩
theorem sta_is {Z U : State} (al : Z.vm.Alike U.vm) {C n d : String} {v : Value} (S : RoadKit.Sta Z U.heap C n d v) : StaticIs U C n d v := by
  obtain ⟨cfS, iS, kS, fS, st, cS, t1, t2, t3, t4, t5, t6, t7⟩ := S
  exact StaticIs.there (s := { Z with heap := U.heap }) ⟨cfS, iS, kS, fS, st, cS, t1, t2, t3, t4, t5, (fun q => by rw [q] at t6; cases t6), t7⟩ al rfl
end StrChars.Road
namespace StrChars
open Jvm Sem ClassFile Op Lib Jvm.Stand Jvm.Free.XT Jvm.Free.ALB Jvm.Free.JM Jvm.Free
open Jvm.Lib.Cold (StaticIs)
/-- what place i of a byte[]'s cell holds -/
def yv (A : Cell) (i : Nat) : Int32 := match A.slots[i]? with | some (.int x) => x | _ => 0
theorem yv_get {a : Addr} {A : Cell} {U : State} (h : XT.Arr .byte a A U) (ht : Typed .byte A) {i : Nat} (hi : i < A.slots.size) : A.slots[i]? = some (.int (yv A i)) := by
  have e := Array.getElem?_eq_getElem hi
  have f := ht i _ e
  unfold yv; rw [e]
  generalize A.slots[i] = v at f
  cases v <;> simp [fits] at f ⊢
/-- the two arrays are equal, place for place -/
def EqC (A B : Cell) : Prop := A.slots.size = B.slots.size ∧ ∀ i, i < A.slots.size → yv A i = yv B i
/-- a boolean that says whether p -/
def Says01 (q : Prop) (r : Option Value) (s u : State) : Prop := ∃ v : Int32, r = some (.int v) ∧ u.heap = s.heap ∧ ((v = 1 ∧ q) ∨ (v = 0 ∧ ¬ q))
theorem Says01.mv {q : Prop} : ∀ r (U U' V V' : State), U'.heap = U.heap → V.vm.Alike V'.vm → V'.heap = V.heap → Says01 q r U V → Says01 q r U' V' :=
  fun r U U' V V' h1 _ h2 ⟨v, a, b, c⟩ => ⟨v, a, by rw [h1, h2]; exact b, c⟩
namespace LEq
def yN : MethodName := ⟨"java/lang/StringLatin1", "equals", "([B[B)Z"⟩
abbrev yB : ByteArray := jdk_43_method_13_code
theorem d0 : decode yB 0 = .ok (.aload_n 0, 1) := by decide +kernel
theorem d1 : decode yB 1 = .ok (.arraylength, 1) := by decide +kernel
theorem d2 : decode yB 2 = .ok (.aload_n 1, 1) := by decide +kernel
theorem d3 : decode yB 3 = .ok (.arraylength, 1) := by decide +kernel
theorem d4 : decode yB 4 = .ok (.if_icmp (.ne) 30, 3) := by decide +kernel
theorem d7 : decode yB 7 = .ok (.iconst 0, 1) := by decide +kernel
theorem d8 : decode yB 8 = .ok (.istore_n 2, 1) := by decide +kernel
theorem d9 : decode yB 9 = .ok (.iload_n 2, 1) := by decide +kernel
theorem d10 : decode yB 10 = .ok (.aload_n 0, 1) := by decide +kernel
theorem d11 : decode yB 11 = .ok (.arraylength, 1) := by decide +kernel
theorem d12 : decode yB 12 = .ok (.if_icmp (.ge) 20, 3) := by decide +kernel
theorem d15 : decode yB 15 = .ok (.aload_n 0, 1) := by decide +kernel
theorem d16 : decode yB 16 = .ok (.iload_n 2, 1) := by decide +kernel
theorem d17 : decode yB 17 = .ok (.baload, 1) := by decide +kernel
theorem d18 : decode yB 18 = .ok (.aload_n 1, 1) := by decide +kernel
theorem d19 : decode yB 19 = .ok (.iload_n 2, 1) := by decide +kernel
theorem d20 : decode yB 20 = .ok (.baload, 1) := by decide +kernel
theorem d21 : decode yB 21 = .ok (.if_icmp (.eq) 5, 3) := by decide +kernel
theorem d24 : decode yB 24 = .ok (.iconst 0, 1) := by decide +kernel
theorem d25 : decode yB 25 = .ok (.ireturn, 1) := by decide +kernel
theorem d26 : decode yB 26 = .ok (.iinc 2 1, 3) := by decide +kernel
theorem d29 : decode yB 29 = .ok (.goto (-20), 3) := by decide +kernel
theorem d32 : decode yB 32 = .ok (.iconst 1, 1) := by decide +kernel
theorem d33 : decode yB 33 = .ok (.ireturn, 1) := by decide +kernel
theorem d34 : decode yB 34 = .ok (.iconst 0, 1) := by decide +kernel
theorem d35 : decode yB 35 = .ok (.ireturn, 1) := by decide +kernel
def site : List Cond := []
def tab : Cond := tabOf yN yB 3 (some .boolean) site
def P (a : Addr) (A : Cell) (b : Addr) (B : Cell) (args : Array Value) (s : State) : Prop := args = #[.ref a, .ref b] ∧ XT.Arr .byte a A s ∧ Typed .byte A ∧ XT.Arr .byte b B s ∧ Typed .byte B
/-- whether two byte[] are equal, place for place -/
theorem law (l : Launch) (a : Addr) (A : Cell) (b : Addr) (B : Cell) : Law l yN 2 2 0 0 yB 3 (some .boolean) site (P a A b B) (Says01 (EqC A B)) [] 0 0 := by
  refine Law.of_walk (plainFor_of_name (by decide +kernel)) (by decide +kernel) (by decide +kernel) (by decide) (fun _ _ h => by rw [h.1]; rfl) (fun _ U U' hal hh h => ⟨h.1, h.2.1.mv hal hh, h.2.2.1, h.2.2.2.1.mv hal hh, h.2.2.2.2⟩) (fun r U U' V V' h1 hal h2 h => Says01.mv r U U' V V' h1 hal h2 h) ?_
  intro p e s m args below meth c s₁ X0 hexec hbytes hml hret hlk hnm hown hh0 W hP
  obtain ⟨rfl, hA, tA, hB, tB⟩ := hP
  have a31 := hA.2.2.2
  have b31 := hB.2.2.2
  have hA0 := hA.mv X0.warmed.alike hh0
  have hB0 := hB.mv X0.warmed.alike hh0
  have c1 : Steps p.tables e below (s₁.setTop (entryFrame m #[.ref a, .ref b] 3)) (s₁.setTop (mkF m 0 #[.val (.ref a), .val (.ref b), .unset] [])) := entry rfl
  have c2 : Steps p.tables e below (s₁.setTop (entryFrame m #[.ref a, .ref b] 3)) (s₁.setTop (mkF m 4 #[.val (.ref a), .val (.ref b), .unset] [.int (Int32.ofNat B.slots.size), .int (Int32.ofNat A.slots.size)])) := c1.trans (by
    refine XS.aloadN X0.here hexec rfl (hb hbytes d0) rfl rfl ?_
    refine X0.alen hexec hA0 rfl rfl (hb hbytes d1) ?_
    refine XS.aloadN X0.here hexec rfl (hb hbytes d2) rfl rfl ?_
    refine X0.alen hexec hB0 rfl rfl (hb hbytes d3) ?_
    exact Steps.refl _)
  by_cases hs : A.slots.size = B.slots.size
  · have c3 : Steps p.tables e below (s₁.setTop (entryFrame m #[.ref a, .ref b] 3)) (s₁.setTop (mkF m 9 #[.val (.ref a), .val (.ref b), .val (.int 0)] [])) := c2.trans (by
      refine XS.icmpNo X0.here hexec rfl (hb hbytes d4) rfl (ii_ne_f (by rw [hs])) ?_
      refine iconstV X0.here hexec rfl 0 (hb hbytes d7) (by decide) ?_
      refine XS.istoreN X0.here hexec rfl (hb hbytes d8) rfl rfl ?_
      exact Steps.refl _)
    have loop : ∀ (r i : Nat), i + r = A.slots.size → (∀ j, j < i → yv A j = yv B j) → Steps p.tables e below (s₁.setTop (entryFrame m #[.ref a, .ref b] 3)) (s₁.setTop (mkF m 9 #[.val (.ref a), .val (.ref b), .val (.int (Int32.ofNat i))] [])) → ∃ (pc : Nat) (Ls : Array Slot) (v : Int32), (pc = 25 ∨ pc = 33) ∧ ((v = 1 ∧ EqC A B) ∨ (v = 0 ∧ ¬ EqC A B)) ∧ Steps p.tables e below (s₁.setTop (entryFrame m #[.ref a, .ref b] 3)) (s₁.setTop (mkF m pc Ls [.int v])) := by
      intro r
      induction r with
      | zero =>
        intro i hi he cl
        exact ⟨33, _, 1, Or.inr rfl, Or.inl ⟨rfl, hs, fun j hj => he j (by omega)⟩, cl.trans (by
          refine XS.iloadN X0.here hexec rfl (hb hbytes d9) rfl ?_
          refine XS.aloadN X0.here hexec rfl (hb hbytes d10) rfl rfl ?_
          refine X0.alen hexec hA0 rfl rfl (hb hbytes d11) ?_
          refine XS.icmpYes X0.here hexec rfl (pc0 := 12) rfl (hb hbytes d12) rfl (ii_ge_t (nlt32 (by omega) (by omega))) (by decide) rfl ?_
          refine iconstV X0.here hexec rfl 1 (hb hbytes d32) (by decide) ?_
          exact Steps.refl _)⟩
      | succ r ih =>
        intro i hi he cl
        have c4 : Steps p.tables e below (s₁.setTop (entryFrame m #[.ref a, .ref b] 3)) (s₁.setTop (mkF m 21 #[.val (.ref a), .val (.ref b), .val (.int (Int32.ofNat i))] [.int (yv B i), .int (yv A i)])) := cl.trans (by
          refine XS.iloadN X0.here hexec rfl (hb hbytes d9) rfl ?_
          refine XS.aloadN X0.here hexec rfl (hb hbytes d10) rfl rfl ?_
          refine X0.alen hexec hA0 rfl rfl (hb hbytes d11) ?_
          refine XS.icmpNo X0.here hexec rfl (hb hbytes d12) rfl (ii_ge_f (lt32 (by omega) (by omega))) ?_
          refine XS.aloadN X0.here hexec rfl (hb hbytes d15) rfl rfl ?_
          refine XS.iloadN X0.here hexec rfl (hb hbytes d16) rfl ?_
          refine X0.aget hexec hA0 rfl (yv_get hA tA (i := i) (by omega)) rfl rfl (hb hbytes d17) ?_
          refine XS.aloadN X0.here hexec rfl (hb hbytes d18) rfl rfl ?_
          refine XS.iloadN X0.here hexec rfl (hb hbytes d19) rfl ?_
          refine X0.aget hexec hB0 rfl (yv_get hB tB (i := i) (by omega)) rfl rfl (hb hbytes d20) ?_
          exact Steps.refl _)
        by_cases hv : yv A i = yv B i
        · have c5 : Steps p.tables e below (s₁.setTop (entryFrame m #[.ref a, .ref b] 3)) (s₁.setTop (mkF m 9 #[.val (.ref a), .val (.ref b), .val (.int (Int32.ofNat i + 1))] [])) := c4.trans (by
            refine XS.icmpYes X0.here hexec rfl (pc0 := 21) rfl (hb hbytes d21) rfl (ii_eq_t hv) (by decide) rfl ?_
            refine iincV X0.here hexec rfl 1 (hb hbytes d26) (by decide) rfl rfl ?_
            refine XS.goto X0.here hexec rfl (pc0 := 29) rfl (hb hbytes d29) (by decide) rfl ?_
            exact Steps.refl _)
          rw [succ32] at c5
          exact ih (i + 1) (by omega) (fun j hj => by
            by_cases e : j = i
            · rw [e]; exact hv
            · exact he j (by omega)) c5
        · exact ⟨25, _, 0, Or.inl rfl, Or.inr ⟨rfl, fun q => hv (q.2 i (by omega))⟩, c4.trans (by
            refine XS.icmpNo X0.here hexec rfl (hb hbytes d21) rfl (ii_eq_f hv) ?_
            refine iconstV X0.here hexec rfl 0 (hb hbytes d24) (by decide) ?_
            exact Steps.refl _)⟩
    obtain ⟨pc, Ls, v, hpc, hv, cz⟩ := loop A.slots.size 0 (by omega) (fun j hj => absurd hj (Nat.not_lt_zero j)) c3
    have nv : narrow .boolean (.int v) = .int v := by rcases hv with ⟨rfl, -⟩ | ⟨rfl, -⟩ <;> rfl
    rcases hpc with rfl | rfl
    · exact ⟨s₁, some (.int v), _, _, _, X0, rfl, rfl, rfl, (fun h => by cases h), ⟨v, rfl, hh0, hv⟩, fun fs hl => cz.trans (X0.ireturnOut hexec hret nv (Or.inr (Or.inl rfl)) (hb hbytes d25) hl)⟩
    · exact ⟨s₁, some (.int v), _, _, _, X0, rfl, rfl, rfl, (fun h => by cases h), ⟨v, rfl, hh0, hv⟩, fun fs hl => cz.trans (X0.ireturnOut hexec hret nv (Or.inr (Or.inl rfl)) (hb hbytes d33) hl)⟩
  · have c3 : Steps p.tables e below (s₁.setTop (entryFrame m #[.ref a, .ref b] 3)) (s₁.setTop (mkF m 35 #[.val (.ref a), .val (.ref b), .unset] [.int 0])) := c2.trans (by
      refine XS.icmpYes X0.here hexec rfl (pc0 := 4) rfl (hb hbytes d4) rfl (ii_ne_t (ne32 a31 b31 hs)) (by decide) rfl ?_
      refine iconstV X0.here hexec rfl 0 (hb hbytes d34) (by decide) ?_
      exact Steps.refl _)
    exact ⟨s₁, some (.int 0), _, _, _, X0, rfl, rfl, rfl, (fun h => by cases h), ⟨0, rfl, hh0, Or.inr ⟨rfl, fun q => hs q.1⟩⟩, fun fs hl => c3.trans (X0.ireturnOut hexec hret rfl (Or.inr (Or.inl rfl)) (hb hbytes d35) hl)⟩
end LEq
theorem Cod.ty {cd : Int32} {n : Nat} {f : Nat → Int32} {V : Cell} (h : Cod cd n f V) : Typed .byte V := fun i v hv => by
  have hi : i < V.slots.size := (Array.getElem?_eq_some_iff.mp hv).1
  rcases h with ⟨-, k1, k2⟩ | ⟨-, k1, k2, -⟩
  · rw [(k2 i (by omega)).1] at hv; cases hv; exact fits_lo8 _
  · rcases Nat.mod_two_eq_zero_or_one i with e | e
    · obtain ⟨j, rfl⟩ : ∃ j, i = 2 * j := ⟨i / 2, by omega⟩
      rw [(k2 j (by omega)).1] at hv; cases hv; exact fits_lo8 _
    · obtain ⟨j, rfl⟩ : ∃ j, i = 2 * j + 1 := ⟨i / 2, by omega⟩
      rw [(k2 j (by omega)).2] at hv; cases hv; exact fits_lo8 _
/-- the same text -/
def SameT (n : Nat) (f : Nat → Int32) (k : Nat) (g : Nat → Int32) : Prop := n = k ∧ ∀ j, j < n → f j = g j
theorem lo8_inj {x y : Int32} (h0 : ¬ x < 0) (h1 : ¬ 255 < x) (k0 : ¬ y < 0) (k1 : ¬ 255 < y) (h : lo8 x = lo8 y) : x = y := by
  rw [← lo8_mask h0 h1, ← lo8_mask k0 k1, h]
/-- arrays coded by one coder are equal just where the texts are -/
theorem Cod.eqv {cd : Int32} {n k : Nat} {f g : Nat → Int32} {V V' : Cell} (h : Cod cd n f V) (h' : Cod cd k g V') (hf : ∀ j, j < n → ¬ f j < 0 ∧ ¬ 65535 < f j) (hg : ∀ j, j < k → ¬ g j < 0 ∧ ¬ 65535 < g j) : EqC V V' ↔ SameT n f k g := by
  have yvv : ∀ {W : Cell} {i : Nat} {x : Int32}, W.slots[i]? = some (.int x) → yv W i = x := fun q => by unfold yv; rw [q]
  rcases h with ⟨rfl, k1, k2⟩ | ⟨rfl, k1, k2, -⟩
  · rcases h' with ⟨-, m1, m2⟩ | ⟨e, -⟩
    · constructor
      · rintro ⟨e1, e2⟩
        refine ⟨by omega, fun j hj => ?_⟩
        have q := e2 j (by omega)
        rw [yvv (k2 j hj).1, yvv (m2 j (by omega)).1] at q
        exact lo8_inj (hf j hj).1 (k2 j hj).2 (hg j (by omega)).1 (m2 j (by omega)).2 q
      · rintro ⟨rfl, e2⟩
        refine ⟨by omega, fun j hj => ?_⟩
        rw [yvv (k2 j (by omega)).1, yvv (m2 j (by omega)).1, e2 j (by omega)]
    · exact absurd e (by decide)
  · rcases h' with ⟨e, -⟩ | ⟨-, m1, m2, -⟩
    · exact absurd e (by decide)
    · constructor
      · rintro ⟨e1, e2⟩
        refine ⟨by omega, fun j hj => ?_⟩
        have q1 := e2 (2 * j) (by omega)
        have q2 := e2 (2 * j + 1) (by omega)
        rw [yvv (k2 j hj).1, yvv (m2 j (by omega)).1] at q1
        rw [yvv (k2 j hj).2, yvv (m2 j (by omega)).2] at q2
        rw [← pair_says (hf j hj).1 (hf j hj).2, ← pair_says (hg j (by omega)).1 (hg j (by omega)).2, q1, q2]
      · rintro ⟨rfl, e2⟩
        refine ⟨by omega, fun i hi => ?_⟩
        rcases Nat.mod_two_eq_zero_or_one i with e | e
        · obtain ⟨j, rfl⟩ : ∃ j, i = 2 * j := ⟨i / 2, by omega⟩
          rw [yvv (k2 j (by omega)).1, yvv (m2 j (by omega)).1, e2 j (by omega)]
        · obtain ⟨j, rfl⟩ : ∃ j, i = 2 * j + 1 := ⟨i / 2, by omega⟩
          rw [yvv (k2 j (by omega)).2, yvv (m2 j (by omega)).2, e2 j (by omega)]
/-- two codings differ: so do the texts -/
theorem Cod.dif {cd cd' : Int32} {n k : Nat} {f g : Nat → Int32} {V V' : Cell} (h : Cod cd n f V) (h' : Cod cd' k g V') (hne : ¬ cd = cd') : ¬ SameT n f k g := by
  rintro ⟨rfl, e⟩
  rcases h with ⟨rfl, -, k2⟩ | ⟨rfl, -, -, j, hj, hw⟩
  · rcases h' with ⟨rfl, -⟩ | ⟨-, -, -, j, hj, hw⟩
    · exact hne rfl
    · exact (k2 j hj).2 (by rw [e j hj]; exact hw)
  · rcases h' with ⟨-, -, m2⟩ | ⟨rfl, -⟩
    · exact (m2 j hj).2 (by rw [← e j hj]; exact hw)
    · exact hne rfl
/-- an object of exactly C is an instance of C -/
theorem cinst {p : Program} {l : Launch} {e : Env} {R : Room} {s : State} {m : MethodId} {args : Array Value} {below : List Frame} {meth : Method} {c : Code} {T : State} {locs : List Loc} {cells slots : Nat} (X : Stand p l e R s m args below meth c T locs cells slots) (hexec : p.tables.exec = Jvm.exec) {own C : String} {index : Nat} (hown : s.vm.findClass own = some m.cls) (hlink : (Cond.classLink own index C).before args s = true) {a : Addr} (hE : Exact C a T)
    {g : JFrame} (hg : g.method = m) {rest : List Value} (hstack : g.stack = .ref a :: rest) (hdg : decode c.code g.pc = .ok (.instanceof index, 3)) :
    ∃ T', Stand p l e R s m args below meth c T' locs cells slots ∧ T'.heap = T.heap ∧ ∀ target, Steps p.tables e below (T'.setTop { g with pc := g.pc + 3, stack := .int 1 :: rest }) target → Steps p.tables e below (T.setTop g) target := by
  obtain ⟨cB, h1, D, h2, h3, h4⟩ := hE
  have h1' : s.vm.findClass C = some cB := by rw [← X.warmed.alike.findClass]; exact h1
  obtain ⟨vm', X', st⟩ := X.instanceofYes hexec hown hlink h2 h4 h1' (by rw [h3]; exact Jvm.Free.SB.assignable_self _ _) hg hstack hdg
  exact ⟨_, X', rfl, st⟩
theorem cself {p : Program} {l : Launch} {e : Env} {R : Room} {s : State} {m : MethodId} {args : Array Value} {below : List Frame} {meth : Method} {c : Code} {T : State} {locs : List Loc} {cells slots : Nat} (X : Stand p l e R s m args below meth c T locs cells slots) (hexec : p.tables.exec = Jvm.exec) {own C : String} {index : Nat} (hown : s.vm.findClass own = some m.cls) (hlink : (Cond.classLink own index C).before args s = true) {a : Addr} (hE : Exact C a T)
    {g : JFrame} (hg : g.method = m) {rest : List Value} (hstack : g.stack = .ref a :: rest) (hdg : decode c.code g.pc = .ok (.checkcast index, 3)) :
    ∃ T', Stand p l e R s m args below meth c T' locs cells slots ∧ T'.heap = T.heap ∧ ∀ target, Steps p.tables e below (T'.setTop { g with pc := g.pc + 3, stack := .ref a :: rest }) target → Steps p.tables e below (T.setTop g) target := by
  obtain ⟨cB, h1, D, h2, h3, h4⟩ := hE
  have h1' : s.vm.findClass C = some cB := by rw [← X.warmed.alike.findClass]; exact h1
  obtain ⟨vm', X', st⟩ := X.checkcastYes hexec hown hlink h2 h4 h1' (by rw [h3]; exact Jvm.Free.SB.assignable_self _ _) hg hstack hdg
  exact ⟨_, X', rfl, fun t h => st t (by rw [← hstack] at h; exact h)⟩
namespace SEq
def yN : MethodName := ⟨"java/lang/String", "equals", "(Ljava/lang/Object;)Z"⟩
abbrev yB : ByteArray := jdk_42_method_66_code
theorem d0 : decode yB 0 = .ok (.aload_n 0, 1) := by decide +kernel
theorem d1 : decode yB 1 = .ok (.aload_n 1, 1) := by decide +kernel
theorem d2 : decode yB 2 = .ok (.if_acmp (.ne) 5, 3) := by decide +kernel
theorem d5 : decode yB 5 = .ok (.iconst 1, 1) := by decide +kernel
theorem d6 : decode yB 6 = .ok (.ireturn, 1) := by decide +kernel
theorem d7 : decode yB 7 = .ok (.aload_n 1, 1) := by decide +kernel
theorem d8 : decode yB 8 = .ok (.instanceof 10, 3) := by decide +kernel
theorem d11 : decode yB 11 = .ok (.ifCond (.eq) 43, 3) := by decide +kernel
theorem d14 : decode yB 14 = .ok (.aload_n 1, 1) := by decide +kernel
theorem d15 : decode yB 15 = .ok (.checkcast 10, 3) := by decide +kernel
theorem d18 : decode yB 18 = .ok (.astore_n 2, 1) := by decide +kernel
theorem d19 : decode yB 19 = .ok (.getstatic 38, 3) := by decide +kernel
theorem d22 : decode yB 22 = .ok (.ifCond (.eq) 14, 3) := by decide +kernel
theorem d25 : decode yB 25 = .ok (.aload_n 0, 1) := by decide +kernel
theorem d26 : decode yB 26 = .ok (.getfield 15, 3) := by decide +kernel
theorem d29 : decode yB 29 = .ok (.aload_n 2, 1) := by decide +kernel
theorem d30 : decode yB 30 = .ok (.getfield 15, 3) := by decide +kernel
theorem d33 : decode yB 33 = .ok (.if_icmp (.ne) 21, 3) := by decide +kernel
theorem d36 : decode yB 36 = .ok (.aload_n 0, 1) := by decide +kernel
theorem d37 : decode yB 37 = .ok (.getfield 9, 3) := by decide +kernel
theorem d40 : decode yB 40 = .ok (.aload_n 2, 1) := by decide +kernel
theorem d41 : decode yB 41 = .ok (.getfield 9, 3) := by decide +kernel
theorem d44 : decode yB 44 = .ok (.invokestatic 541, 3) := by decide +kernel
theorem d47 : decode yB 47 = .ok (.ifCond (.eq) 7, 3) := by decide +kernel
theorem d50 : decode yB 50 = .ok (.iconst 1, 1) := by decide +kernel
theorem d51 : decode yB 51 = .ok (.goto 4, 3) := by decide +kernel
theorem d54 : decode yB 54 = .ok (.iconst 0, 1) := by decide +kernel
theorem d55 : decode yB 55 = .ok (.ireturn, 1) := by decide +kernel
def site : List Cond := [.classLink "java/lang/String" 10 "java/lang/String", .fieldLink "java/lang/String" 38 "java/lang/String" "COMPACT_STRINGS" "Z", .fieldLink "java/lang/String" 15 "java/lang/String" "coder" "B", .fieldLink "java/lang/String" 9 "java/lang/String" "value" "[B", LEq.tab] ++ staticW "java/lang/String" 541 LEq.yN
def tab : Cond := tabOf yN yB 3 (some .boolean) site
def P (x t : Addr) (V : Cell) (cd : Int32) (n : Nat) (f : Nat → Int32) (y t' : Addr) (V' : Cell) (cd' : Int32) (k : Nat) (g : Nat → Int32) (z : Int32) (args : Array Value) (s : State) : Prop := args = #[.ref x, .ref y] ∧ Txt x t V cd n f s ∧ Txt y t' V' cd' k g s ∧ StaticIs s "java/lang/String" "COMPACT_STRINGS" "Z" (.int z) ∧ ¬ z = 0
/-- equals(Object) of two Strings: whether the texts are the same -/
theorem law (l : Launch) (x t : Addr) (V : Cell) (cd : Int32) (n : Nat) (f : Nat → Int32) (y t' : Addr) (V' : Cell) (cd' : Int32) (k : Nat) (g : Nat → Int32) (z : Int32) : Law l yN 2 1 1 14 yB 3 (some .boolean) site (P x t V cd n f y t' V' cd' k g z) (Says01 (SameT n f k g)) [] 0 0 := by
  refine Law.of_walk (plainFor_of_name (by decide +kernel)) (by decide +kernel) (by decide +kernel) (by decide) (fun _ _ h => by rw [h.1]; rfl) (fun _ U U' hal hh h => ⟨h.1, h.2.1.mv hal hh, h.2.2.1.mv hal hh, h.2.2.2.1.there hal hh, h.2.2.2.2⟩) (fun r U U' V V' h1 hal h2 h => Says01.mv r U U' V V' h1 hal h2 h) ?_
  intro p e s m args below meth c s₁ X0 hexec hbytes hml hret hlk hnm hown hh0 W hP
  obtain ⟨rfl, hx, hy, s1, hz⟩ := hP
  have c1 : Steps p.tables e below (s₁.setTop (entryFrame m #[.ref x, .ref y] 3)) (s₁.setTop (mkF m 2 #[.val (.ref x), .val (.ref y), .unset] [.ref y, .ref x])) := Steps.trans (entry rfl) (by
    show Steps p.tables e below (s₁.setTop (mkF m 0 #[.val (.ref x), .val (.ref y), .unset] [])) _
    refine XS.aloadN X0.here hexec rfl (hb hbytes d0) rfl rfl ?_
    refine XS.aloadN X0.here hexec rfl (hb hbytes d1) rfl rfl ?_
    exact Steps.refl _)
  by_cases hxy : x = y
  · have c2 : Steps p.tables e below (s₁.setTop (entryFrame m #[.ref x, .ref y] 3)) (s₁.setTop (mkF m 6 #[.val (.ref x), .val (.ref y), .unset] [.int 1])) := c1.trans (by
      refine acmpNo X0.here hexec rfl (hb hbytes d2) rfl rfl rfl (by simp [acmp, hxy]) ?_
      refine iconstV X0.here hexec rfl 1 (hb hbytes d5) (by decide) ?_
      exact Steps.refl _)
    subst hxy
    have ec : cd = cd' := by
      obtain ⟨D, fd, a1, a2, a3⟩ := hx.2.2.1
      obtain ⟨D', fd', b1, b2, b3⟩ := hy.2.2.1
      cases a1.symm.trans b1
      obtain ⟨q1, q2, q3, q4⟩ := a2.1
      obtain ⟨r1, r2, r3, r4⟩ := b2.1
      cases q4.symm.trans r4
      cases a3.symm.trans b3; rfl
    have et : t = t' := by
      obtain ⟨D, fd, a1, a2, a3⟩ := hx.2.1
      obtain ⟨D', fd', b1, b2, b3⟩ := hy.2.1
      cases a1.symm.trans b1
      obtain ⟨q1, q2, q3, q4⟩ := a2.1
      obtain ⟨r1, r2, r3, r4⟩ := b2.1
      cases q4.symm.trans r4
      cases a3.symm.trans b3; rfl
    subst ec et
    have ev : V = V' := by cases hx.2.2.2.1.1.symm.trans hy.2.2.2.1.1; rfl
    subst ev
    have hs : SameT n f k g := (Cod.eqv hx.2.2.2.2.1 hy.2.2.2.2.1 hx.2.2.2.2.2 hy.2.2.2.2.2).mp ⟨rfl, fun _ _ => rfl⟩
    exact ⟨s₁, some (.int 1), _, _, _, X0, rfl, rfl, rfl, (fun h => by cases h), ⟨1, rfl, hh0, Or.inl ⟨rfl, hs⟩⟩, fun fs hl => c2.trans (X0.ireturnOut hexec hret rfl (Or.inr (Or.inl rfl)) (hb hbytes d6) hl)⟩
  · have c2 : Steps p.tables e below (s₁.setTop (entryFrame m #[.ref x, .ref y] 3)) (s₁.setTop (mkF m 8 #[.val (.ref x), .val (.ref y), .unset] [.ref y])) := c1.trans (by
      refine acmpYes X0.here hexec rfl (pc0 := 2) rfl (hb hbytes d2) rfl rfl rfl (by simp [acmp, hxy]) (by decide) rfl ?_
      refine XS.aloadN X0.here hexec rfl (hb hbytes d7) rfl rfl ?_
      exact Steps.refl _)
    obtain ⟨T3, X3, q3, st3⟩ := cinst X0 hexec hown (wk W (.classLink "java/lang/String" 10 "java/lang/String")) (hy.mv X0.warmed.alike hh0).1 (g := (mkF m 8 #[.val (.ref x), .val (.ref y), .unset] [.ref y])) rfl (rest := []) rfl (hb hbytes d8)
    have hh3 := q3.trans hh0
    have c4 : Steps p.tables e below (s₁.setTop (entryFrame m #[.ref x, .ref y] 3)) (T3.setTop (mkF m 15 #[.val (.ref x), .val (.ref y), .unset] [.ref y])) := (c2.trans (st3 _ (Steps.refl _))).trans (by
      refine XS.ifNo X3.here hexec rfl (hb hbytes d11) rfl (i0_eq_f (by decide)) ?_
      refine XS.aloadN X3.here hexec rfl (hb hbytes d14) rfl rfl ?_
      exact Steps.refl _)
    obtain ⟨T5, X5, q5, st5⟩ := cself X3 hexec hown (wk W (.classLink "java/lang/String" 10 "java/lang/String")) (hy.mv X3.warmed.alike hh3).1 (g := (mkF m 15 #[.val (.ref x), .val (.ref y), .unset] [.ref y])) rfl (rest := []) rfl (hb hbytes d15)
    have hh5 := q5.trans hh3
    have c6 : Steps p.tables e below (s₁.setTop (entryFrame m #[.ref x, .ref y] 3)) (T5.setTop (mkF m 19 #[.val (.ref x), .val (.ref y), .val (.ref y)] [])) := (c4.trans (st5 _ (Steps.refl _))).trans (by
      refine XS.astoreN X5.here hexec rfl (hb hbytes d18) rfl rfl rfl ?_
      exact Steps.refl _)
    obtain ⟨T7, X7, q7, st7⟩ := X5.sget hexec hown (wk W (.fieldLink "java/lang/String" 38 "java/lang/String" "COMPACT_STRINGS" "Z")) s1 (fun _ _ h => by rw [hh5]; exact h) (g := (mkF m 19 #[.val (.ref x), .val (.ref y), .val (.ref y)] [])) rfl (hb hbytes d19)
    have hh7 := q7.trans hh5
    have c8 : Steps p.tables e below (s₁.setTop (entryFrame m #[.ref x, .ref y] 3)) (T7.setTop (mkF m 26 #[.val (.ref x), .val (.ref y), .val (.ref y)] [.ref x])) := (c6.trans (st7 _ (Steps.refl _))).trans (by
      refine XS.ifNo X7.here hexec rfl (hb hbytes d22) rfl (i0_eq_f hz) ?_
      refine XS.aloadN X7.here hexec rfl (hb hbytes d25) rfl rfl ?_
      exact Steps.refl _)
    obtain ⟨T9, X9, q9, st9⟩ := X7.hget hexec hown (wk W (.fieldLink "java/lang/String" 15 "java/lang/String" "coder" "B")) (hx.mv X7.warmed.alike hh7).2.2.1 (g := (mkF m 26 #[.val (.ref x), .val (.ref y), .val (.ref y)] [.ref x])) rfl (rest := []) rfl (hb hbytes d26)
    have hh9 := q9.trans hh7
    have c10 : Steps p.tables e below (s₁.setTop (entryFrame m #[.ref x, .ref y] 3)) (T9.setTop (mkF m 30 #[.val (.ref x), .val (.ref y), .val (.ref y)] [.ref y, .int cd])) := (c8.trans (st9 _ (Steps.refl _))).trans (by
      refine XS.aloadN X9.here hexec rfl (hb hbytes d29) rfl rfl ?_
      exact Steps.refl _)
    obtain ⟨T11, X11, q11, st11⟩ := X9.hget hexec hown (wk W (.fieldLink "java/lang/String" 15 "java/lang/String" "coder" "B")) (hy.mv X9.warmed.alike hh9).2.2.1 (g := (mkF m 30 #[.val (.ref x), .val (.ref y), .val (.ref y)] [.ref y, .int cd])) rfl (rest := [.int cd]) rfl (hb hbytes d30)
    have hh11 := q11.trans hh9
    have c12 : Steps p.tables e below (s₁.setTop (entryFrame m #[.ref x, .ref y] 3)) (T11.setTop (mkF m 33 #[.val (.ref x), .val (.ref y), .val (.ref y)] [.int cd', .int cd])) := c10.trans (st11 _ (Steps.refl _))
    by_cases hcd : cd = cd'
    · subst hcd
      have c13 : Steps p.tables e below (s₁.setTop (entryFrame m #[.ref x, .ref y] 3)) (T11.setTop (mkF m 37 #[.val (.ref x), .val (.ref y), .val (.ref y)] [.ref x])) := c12.trans (by
        refine XS.icmpNo X11.here hexec rfl (hb hbytes d33) rfl (ii_ne_f rfl) ?_
        refine XS.aloadN X11.here hexec rfl (hb hbytes d36) rfl rfl ?_
        exact Steps.refl _)
      obtain ⟨T14, X14, q14, st14⟩ := X11.hget hexec hown (wk W (.fieldLink "java/lang/String" 9 "java/lang/String" "value" "[B")) (hx.mv X11.warmed.alike hh11).2.1 (g := (mkF m 37 #[.val (.ref x), .val (.ref y), .val (.ref y)] [.ref x])) rfl (rest := []) rfl (hb hbytes d37)
      have hh14 := q14.trans hh11
      have c15 : Steps p.tables e below (s₁.setTop (entryFrame m #[.ref x, .ref y] 3)) (T14.setTop (mkF m 41 #[.val (.ref x), .val (.ref y), .val (.ref y)] [.ref y, .ref t])) := (c13.trans (st14 _ (Steps.refl _))).trans (by
        refine XS.aloadN X14.here hexec rfl (hb hbytes d40) rfl rfl ?_
        exact Steps.refl _)
      obtain ⟨T16, X16, q16, st16⟩ := X14.hget hexec hown (wk W (.fieldLink "java/lang/String" 9 "java/lang/String" "value" "[B")) (hy.mv X14.warmed.alike hh14).2.1 (g := (mkF m 41 #[.val (.ref x), .val (.ref y), .val (.ref y)] [.ref y, .ref t])) rfl (rest := [.ref t]) rfl (hb hbytes d41)
      have hh16 := q16.trans hh14
      have c17 : Steps p.tables e below (s₁.setTop (entryFrame m #[.ref x, .ref y] 3)) (T16.setTop (mkF m 44 #[.val (.ref x), .val (.ref y), .val (.ref y)] [.ref t', .ref t])) := c15.trans (st16 _ (Steps.refl _))
      obtain ⟨v18, T18, X18, E18, g18⟩ := X16.callS hexec (LEq.law l t V t' V') hown (wks W (staticW "java/lang/String" 541 LEq.yN)) (wk W LEq.tab) (W := 0) (Nat.le_of_ble_eq_true rfl) (Nat.le_of_ble_eq_true rfl) (Nat.le_refl _) (Nat.le_refl _) (g := (mkF m 44 #[.val (.ref x), .val (.ref y), .val (.ref y)] [.ref t', .ref t])) rfl (by rw [hml]; rfl) c17 (argsL := [.ref t, .ref t']) (rest := []) rfl rfl (by show 2 * 0 + 0 ≤ _; decide) (hb hbytes d44) (⟨rfl, hx.2.2.2.1.mv X16.warmed.alike hh16, hx.2.2.2.2.1.ty, hy.2.2.2.1.mv X16.warmed.alike hh16, hy.2.2.2.2.1.ty⟩)
      obtain ⟨v, rfl, q18, hv⟩ := E18
      have iff := Cod.eqv hx.2.2.2.2.1 hy.2.2.2.2.1 hx.2.2.2.2.2 hy.2.2.2.2.2
      rcases hv with ⟨rfl, he⟩ | ⟨rfl, he⟩
      · have c19 : Steps p.tables e below (s₁.setTop (entryFrame m #[.ref x, .ref y] 3)) (T18.setTop (mkF m 55 #[.val (.ref x), .val (.ref y), .val (.ref y)] [.int 1])) := Steps.trans g18 (by
          refine XS.ifNo X18.here hexec rfl (hb hbytes d47) rfl (i0_eq_f (by decide)) ?_
          refine iconstV X18.here hexec rfl 1 (hb hbytes d50) (by decide) ?_
          refine XS.goto X18.here hexec rfl (pc0 := 51) rfl (hb hbytes d51) (by decide) rfl ?_
          exact Steps.refl _)
        exact ⟨T18, some (.int 1), _, _, _, X18, rfl, rfl, rfl, (fun h => by cases h), ⟨1, rfl, q18.trans hh16, Or.inl ⟨rfl, iff.mp he⟩⟩, fun fs hl => c19.trans (X18.ireturnOut hexec hret rfl (Or.inr (Or.inl rfl)) (hb hbytes d55) hl)⟩
      · have c19 : Steps p.tables e below (s₁.setTop (entryFrame m #[.ref x, .ref y] 3)) (T18.setTop (mkF m 55 #[.val (.ref x), .val (.ref y), .val (.ref y)] [.int 0])) := Steps.trans g18 (by
          refine XS.ifYes X18.here hexec rfl (pc0 := 47) rfl (hb hbytes d47) rfl (i0_eq_t rfl) (by decide) rfl ?_
          refine iconstV X18.here hexec rfl 0 (hb hbytes d54) (by decide) ?_
          exact Steps.refl _)
        exact ⟨T18, some (.int 0), _, _, _, X18, rfl, rfl, rfl, (fun h => by cases h), ⟨0, rfl, q18.trans hh16, Or.inr ⟨rfl, fun q => he (iff.mpr q)⟩⟩, fun fs hl => c19.trans (X18.ireturnOut hexec hret rfl (Or.inr (Or.inl rfl)) (hb hbytes d55) hl)⟩
    · have c13 : Steps p.tables e below (s₁.setTop (entryFrame m #[.ref x, .ref y] 3)) (T11.setTop (mkF m 55 #[.val (.ref x), .val (.ref y), .val (.ref y)] [.int 0])) := c12.trans (by
        refine XS.icmpYes X11.here hexec rfl (pc0 := 33) rfl (hb hbytes d33) rfl (ii_ne_t hcd) (by decide) rfl ?_
        refine iconstV X11.here hexec rfl 0 (hb hbytes d54) (by decide) ?_
        exact Steps.refl _)
      exact ⟨T11, some (.int 0), _, _, _, X11, rfl, rfl, rfl, (fun h => by cases h), ⟨0, rfl, hh11, Or.inr ⟨rfl, Cod.dif hx.2.2.2.2.1 hy.2.2.2.2.1 hcd⟩⟩, fun fs hl => c13.trans (X11.ireturnOut hexec hret rfl (Or.inr (Or.inl rfl)) (hb hbytes d55) hl)⟩
theorem pays {l : Launch} {R : Room} {p : Program} {e : Env} {below : List Frame} {s : State} {sargs : Array Value} {len W : Nat} (x t : Addr) (V : Cell) (cd : Int32) (n : Nat) (f : Nat → Int32) (y t' : Addr) (V' : Cell) (cd' : Int32) (k : Nat) (g : Nat → Int32) (z : Int32) (htab : tab.before sargs s = true) (hfr : 2 ≤ R.frames) (hlo : W + 28 ≤ R.locals) :
    Back l R p e below s sargs yN len W (fun A₁ a₁ => A₁.cells + 0 ≤ R.cells ∧ A₁.slots + 0 ≤ R.slots ∧ P x t V cd n f y t' V' cd' k g z a₁ A₁.U) (fun A₁ _ v₁ B₁ => Says01 (SameT n f k g) v₁ A₁.U B₁.U ∧ B₁.locs = A₁.locs ++ [] ∧ B₁.cells = A₁.cells + 0 ∧ B₁.slots = A₁.slots + 0) :=
  (law l x t V cd n f y t' V' cd' k g z).pays htab hfr (by omega)
end SEq
end StrChars
namespace StrChars.Road
open Jvm Sem ClassFile Op Lib Jvm.Stand Jvm.Free Jvm.Free.XT
open Jvm.Lib.Cold (StaticIs)
/-- the words of String.equals(Object) -/
abbrev wordsEq : List Jvm.Cond := [.code SEq.yN SEq.yB 3 (some .boolean), .initialized ST, .classLink ST 10 ST, .fieldLink ST 38 ST "COMPACT_STRINGS" "Z", .fieldLink ST 15 ST "coder" "B", .fieldLink ST 9 ST "value" "[B", .methodLink ST 541 LEq.yN, .static LEq.yN, .code LEq.yN LEq.yB 3 (some .boolean), .initialized "java/lang/StringLatin1"]
theorem tabEq_of {a : Array Value} {s : State} (h : ∀ w ∈ wordsEq, w.before a s = true) : SEq.tab.before a s = true := by
  have hl : LEq.tab.before a s = true := unparts (wk h (.code LEq.yN LEq.yB 3 (some .boolean))) (wks h (.initialized LEq.yN.cls :: LEq.site))
  have q := consq hl h
  exact unparts (wk q (.code SEq.yN SEq.yB 3 (some .boolean))) (wks q (.initialized SEq.yN.cls :: SEq.site))
theorem movedEq {Z s : State} {a0 args : Array Value} (hZ : Z.Warmed39 s.vm) (hw : ∀ d ∈ wordsEq, d.before a0 Z = true) : ∀ d ∈ wordsEq, d.before args s = true := fun d hd => by
  have t : ∀ d ∈ wordsEq, (d.onTables && d.keepsFace) = true := by decide +kernel
  exact RoadKit.mv hZ (hw d hd) (t d hd)
/-- the road's facts of a String, as the laws ask it -/
theorem txt_of {Z U : State} {a0 : Array Value} {kI : Nat} (wi : (Jvm.Cond.instantiable ST kI).before a0 Z = true) (al : Z.vm.Alike U.vm) {x t : Addr} {kb : ClassId} {cs : List Int32} {cd N2 : Int32} {vs : List Value} (E : RoadKit.Exa Z U.heap x ST) (V : RoadKit.Fld Z U.heap x ST "value" "[B" (.ref t)) (C : RoadKit.Fld Z U.heap x ST "coder" "B" (.int cd)) (K : RoadKit.Arv Z U.heap t kb .byte N2 vs (.int 0)) (hc : CodA cs cd N2 vs) (hb : ∀ c ∈ cs, ¬ c < 0 ∧ ¬ (65535 : Int32) < c) (l2 : cs.length ≤ 4000) :
    ∃ A, Txt x t A cd cs.length (fun j => cs.getD j 0) U := by
  obtain ⟨A, K1, K2, K3, K4, K5, K6⟩ := K
  have hcod := hc.cod (by omega) K3 K5
  obtain ⟨D, fV, fC, hB, F1, F2, g1, g2, -, -⟩ := strObj wi al E V C
  exact ⟨A, ⟨_, hB.2.2.1, D, hB.1, rfl, by cases q : D.vm <;> first | rfl | exact absurd q (hB.2.1.2 _)⟩, Has.of hB F1 g1, Has.of hB F2 g2, ⟨K1.1, State.isArrayOf_alike al K1.2.1, K1.2.2, by rcases hcod with ⟨-, q, -⟩ | ⟨-, q, -⟩ <;> omega⟩, hcod, fun j hj => by
    have e : cs.getD j 0 = cs[j] := by simp [List.getD_eq_getElem?_getD, hj]
    show ¬ cs.getD j 0 < 0 ∧ ¬ 65535 < cs.getD j 0
    rw [e]; exact hb _ (List.getElem_mem _)⟩
theorem same_list (cs ds : List Int32) : SameT cs.length (fun j => cs.getD j 0) ds.length (fun j => ds.getD j 0) ↔ cs = ds := by
  constructor
  · rintro ⟨e, q⟩
    refine List.ext_getElem e fun j h1 h2 => ?_
    have := q j h1
    simpa [List.getD_eq_getElem?_getD, h1, h2] using this
  · rintro rfl
    exact ⟨rfl, fun _ _ => rfl⟩
/-- **equals(Object) OF TWO SUCH STRINGS**: 1 just where the chars are the same -/
theorem eqW {p : Program} {l : Launch} {e : Env} {R : Room} {s : State} {args : Array Value} {below : List Frame} {len W : Nat} {Z : State} {a0 : Array Value} {h : Heap} (hZ : Z.Warmed39 s.vm) (hw : ∀ d ∈ wordsEq, d.before a0 Z = true) {kI : Nat} (wi : (Jvm.Cond.instantiable ST kI).before a0 Z = true)
    {x t : Addr} {kb : ClassId} {cs : List Int32} {cd N2 : Int32} {vs : List Value} (E : RoadKit.Exa Z h x ST) (V : RoadKit.Fld Z h x ST "value" "[B" (.ref t)) (C : RoadKit.Fld Z h x ST "coder" "B" (.int cd)) (K : RoadKit.Arv Z h t kb .byte N2 vs (.int 0)) (hc : CodA cs cd N2 vs) (hb : ∀ c ∈ cs, ¬ c < 0 ∧ ¬ (65535 : Int32) < c) (l2 : cs.length ≤ 4000)
    {y t' : Addr} {kb' : ClassId} {ds : List Int32} {cd' N2' : Int32} {vs' : List Value} (E' : RoadKit.Exa Z h y ST) (V' : RoadKit.Fld Z h y ST "value" "[B" (.ref t')) (C' : RoadKit.Fld Z h y ST "coder" "B" (.int cd')) (K' : RoadKit.Arv Z h t' kb' .byte N2' vs' (.int 0)) (hc' : CodA ds cd' N2' vs') (hb' : ∀ c ∈ ds, ¬ c < 0 ∧ ¬ (65535 : Int32) < c) (l2' : ds.length ≤ 4000)
    {z : Int32} (S : RoadKit.Sta Z h ST "COMPACT_STRINGS" "Z" (.int z)) (hz : ¬ z = 0) (hfr : 2 ≤ R.frames) (hlo : W + 28 ≤ R.locals) :
    Back l R p e below s args (⟨"java/lang/String", "equals", "(Ljava/lang/Object;)Z"⟩ : MethodName) len W (fun P a => a = #[.ref x, .ref y] ∧ P.U.heap = h ∧ P.cells + 0 ≤ R.cells ∧ P.slots + 0 ≤ R.slots)
      (fun P _ v B => ∃ L, (((v = some (.int 1) ∧ cs = ds) ∨ (v = some (.int 0) ∧ ¬ cs = ds)) ∧ L = [] ∧ B.U.heap = h) ∧ B.locs = P.locs ++ L ∧ B.cells = P.cells + 0 ∧ B.slots = P.slots + 0) := by
  intro m meth c P g ig mk a X hg hsize hdg hW hn hp'
  obtain ⟨rfl, rfl, r1, r2⟩ := hp'
  have al : Z.vm.Alike P.U.vm := hZ.alike.trans X.warmed.alike
  obtain ⟨A, hx⟩ := txt_of wi al E V C K hc hb l2
  obtain ⟨A', hy⟩ := txt_of wi al E' V' C' K' hc' hb' l2'
  obtain ⟨v, B, X', ⟨⟨w, hv, hh, hq⟩, hl, hk, hs⟩, st⟩ := SEq.pays x t A cd cs.length (fun j => cs.getD j 0) y t' A' cd' ds.length (fun j => ds.getD j 0) z (tabEq_of (movedEq hZ hw)) hfr hlo m meth c P g ig mk _ X hg hsize hdg hW hn ⟨r1, r2, rfl, hx, hy, sta_is al S, hz⟩
  refine ⟨v, B, X', ⟨[], ⟨?_, rfl, hh⟩, hl, hk, hs⟩, st⟩
  rcases hq with ⟨rfl, q⟩ | ⟨rfl, q⟩
  · exact Or.inl ⟨hv, (same_list cs ds).mp q⟩
  · exact Or.inr ⟨hv, fun e => q ((same_list cs ds).mpr e)⟩
end StrChars.Road
namespace StrChars.Road
open Jvm Sem ClassFile Op Lib Jvm.Stand Jvm.Free Jvm.Free.XT
open Jvm.Lib.Cold (StaticIs)
/-- what backV says of its String, as the contracts of this text ask it: cs's low bytes, coder 0 -/
theorem codOf {cs : List Int32} {n : Nat} (hn : cs.length = n) (hb : ∀ c ∈ cs, ¬ 255 < c) : CodA cs 0 (Int32.ofNat n) ((cs.map lo8).map Value.int) := Or.inl ⟨rfl, by rw [hn], by simp [List.map_map, Function.comp_def], hb⟩
end StrChars.Road
end Jvm.Pilot.@@N@@

namespace Jvm.Pilot.@@N@@
open Jvm Jvm.ClassFile Sem Op Lib Jvm.Free Jvm.Stand Jvm.LawKit Jvm.RoadKit Bundle Jvm.Pilot.@@N@@.Jvm.D
theorem own_eqL {x y : Int64} (h : x = y) : lcmpW x y = 0 := by rw [lcW]; exact (lc_eq x y).2 h
theorem own_neL {x y : Int64} (h : ¬ x = y) : ¬ lcmpW x y = 0 := by rw [lcW]; exact fun q => h ((lc_eq x y).1 q)
theorem own_ltL {x y : Int64} (h : x < y) : lcmpW x y < 0 := by rw [lcW]; exact (lc_lt x y).2 h
theorem own_nltL {x y : Int64} (h : ¬ x < y) : ¬ lcmpW x y < 0 := by rw [lcW]; exact fun q => h ((lc_lt x y).1 q)
theorem own_gtL {x y : Int64} (h : y < x) : 0 < lcmpW x y := by rw [lcW]; exact (lc_gt x y).2 h
theorem own_ns_exa {Z : State} {h : Heap} {a : Addr} {C : String} (E : Exa Z h a C) : ∀ cell : Cell, h[a]? = some cell → cell.vm.isStatics = false := by
  obtain ⟨c, k, h1, -, -, h4, -⟩ := E
  intro cell hc; cases h1.symm.trans hc; exact h4
theorem own_ns1 {h : Heap} {a : Addr} (p : ∀ cell : Cell, h[a]? = some cell → cell.vm.isStatics = false) : ∀ x ∈ [a], ∀ cell : Cell, h[x]? = some cell → cell.vm.isStatics = false := by
  intro x hx; cases List.mem_singleton.mp hx; exact p
theorem own_ns2 {h : Heap} {a b : Addr} (p : ∀ cell : Cell, h[a]? = some cell → cell.vm.isStatics = false) (q : ∀ cell : Cell, h[b]? = some cell → cell.vm.isStatics = false) : ∀ x ∈ [a, b], ∀ cell : Cell, h[x]? = some cell → cell.vm.isStatics = false := by
  intro x hx; simp only [List.mem_cons, List.not_mem_nil, or_false] at hx; rcases hx with rfl | rfl <;> first | exact p | exact q
theorem own_sta_keep {Z : State} {h h' : Heap} {ws : List Addr} {C n d : String} {v : Value} (F : Sta Z h C n d v) (K : Keep h h' ws) (hn : ∀ x ∈ ws, ∀ cell : Cell, h[x]? = some cell → cell.vm.isStatics = false) : Sta Z h' C n d v := by
  obtain ⟨cf, i, k, f, st, cell, h1, h2, h3, h4, h5, h6, r⟩ := F
  exact ⟨cf, i, k, f, st, cell, h1, h2, h3, h4, K.2.1 _ _ h5 (fun q => by rw [hn _ q _ h5] at h6; cases h6), h6, r⟩
theorem own_sta_keep0 {Z : State} {h h' : Heap} {C n d : String} {v : Value} (F : Sta Z h C n d v) (K : Keep h h' []) : Sta Z h' C n d v := by
  obtain ⟨cf, i, k, f, st, cell, h1, h2, h3, h4, h5, r⟩ := F
  exact ⟨cf, i, k, f, st, cell, h1, h2, h3, h4, K.2.1 _ _ h5 List.not_mem_nil, r⟩
theorem own_ngtL {x y : Int64} (h : ¬ y < x) : ¬ 0 < lcmpW x y := by rw [lcW]; exact fun q => h ((lc_gt x y).1 q)
theorem own_wordsEq {Z : State} {ar0 : Array Value} (hw : ∀ d ∈ tables_1, d.before ar0 Z = true) : ∀ d ∈ StrChars.Road.wordsEq, d.before ar0 Z = true := fun d hd => hw d ((by decide +kernel : ∀ d ∈ StrChars.Road.wordsEq, d ∈ tables_1) d hd)
theorem own_words {Z : State} {ar0 : Array Value} (hw : ∀ d ∈ tables_1, d.before ar0 Z = true) : ∀ d ∈ StrChars.Road.words, d.before ar0 Z = true := fun d hd => hw d ((by decide +kernel : ∀ d ∈ StrChars.Road.words, d ∈ tables_1) d hd)
theorem own_up (cs : List Int32) (h : ∀ c ∈ cs, ¬ c < 0 ∧ ¬ (255 : Int32) < c) : ∀ c ∈ cs, ¬ c < 0 ∧ ¬ (65535 : Int32) < c := fun c hc => ⟨(h c hc).1, fun q => (h c hc).2 (by rw [Int32.lt_iff_toInt_lt] at q ⊢; have e1 : (65535 : Int32).toInt = 65535 := rfl; have e2 : (255 : Int32).toInt = 255 := rfl; omega)⟩
theorem own_eqI {a : Term} {k : Int32} {args : Array Value} {first s : State} {o : Option Outcome} {idx : List Nat} (h : (Cond.eq a (.int k)).value args first o s idx = some true) : a.eval args first o idx s = some (.int k) := by
  simp only [Cond.value, Term.eval] at h
  cases ha : a.eval args first o idx s with
  | none => simp [ha] at h
  | some x => cases x <;> simp [ha] at h ⊢; exact h
theorem own_eqJ {a : Term} {k : Int64} {args : Array Value} {first s : State} {o : Option Outcome} {idx : List Nat} (h : (Cond.eq a (.long k)).value args first o s idx = some true) : a.eval args first o idx s = some (.long k) := by
  simp only [Cond.value, Term.eval] at h
  cases ha : a.eval args first o idx s with
  | none => simp [ha] at h
  | some x => cases x <;> simp [ha] at h ⊢; exact h
theorem own_len {args : Array Value} {s : State} {t : Term} {a : Addr} {cl : Cell} {n : Int32} (ht : t.eval args s none [] s = some (.ref a)) (hc : s.arrayAt? a = some cl) (h : (Term.length t).eval args s none [] s = some (.int n)) : cl.slots.size < 2 ^ 31 ∧ cl.slots.size.toInt32 = n := by
  simp only [Term.eval, ht, hc, Option.bind_eq_bind, Option.bind_some] at h
  split at h
  · rename_i q; exact ⟨q, by simpa using h⟩
  · cases h
theorem own_sizeN {n : Nat} {k : Int32} (h : n < 2 ^ 31) (e : n.toInt32 = k) : n = k.toNatClampNeg := by
  have q : (n : Int) = k.toInt := by rw [← e]; exact (Int32.toInt_ofNat_of_lt h).symm
  show n = k.toInt.toNat
  omega
theorem own_exa_at {args : Array Value} {s : State} {idx : List Nat} {t : Term} {C : String} {b : Addr} (h : (Cond.exactly t C).value args s none s idx = some true) (e : t.eval args s none idx s = some (.ref b)) : Exa s s.heap b C := by
  obtain ⟨a', c', cell, k, e1, e2, e3, e4, e5, e6, e7⟩ := Cond.exactly_spec (show (Cond.exactly t C).holds args s none s idx = true from beq_iff_eq.mpr h)
  cases e.symm.trans e1
  exact ⟨cell, k, e3, by rw [e6]; exact e2, by rw [e6]; exact e4, e5, e7⟩
theorem own_index {args : Array Value} {s : State} {j : Int32} (h : ¬ j < 0) : (Term.index 0).eval args s none [j.toNatClampNeg] s = some (.int j) := by
  have q := back32 h
  simp [Term.eval, q.1, q.2]
theorem own_elR {args : Array Value} {s : State} {T t2 : Term} {a b : Addr} {cl : Cell} {ty : FieldType} {j : Int32} (A : Arr s s.heap a cl ty) (ha : T.eval args s none [] s = some (.ref a)) (hb : t2.eval args s none [] s = some (.ref b)) (h : (Cond.eq (.elem T (.int j)) t2).value args s none s [] = some true) : cl.slots[j.toNatClampNeg]? = some (.ref b) := by
  obtain ⟨x, y, e1, e2, k1, -⟩ := cmp_v (Or.inl h)
  cases hb.symm.trans e2
  obtain ⟨c', c1, -, c3⟩ := elem_at e1 ha rfl
  cases A.1.symm.trans c1
  rw [c3]
  have hx : x.isRef = true := by cases x <;> simp [Kin, Value.isRef] at k1 ⊢
  have q := gotT (eq_R e1 hb hx rfl) h
  rw [q]

theorem own_since0 (s : State) : s.Since s.vm 0 := ⟨State.Warmed39.refl s, fun j p hj hp => absurd (Array.getElem?_eq_some_iff.mp hp).1 (Nat.not_lt.mpr hj)⟩
theorem own_strW {Z : State} {ar0 : Array Value} (hw : ∀ d ∈ tables_1, d.before ar0 Z = true) : ∀ d ∈ Bundle.stringAtoms, d.before ar0 Z = true := fun d hd => hw d ((by decide +kernel : ∀ d ∈ Bundle.stringAtoms, d ∈ tables_1) d hd)
abbrev own_EL : List (String × Nat) := [("java/lang/String", 7)]
theorem own_EW {Z : State} {ar0 : Array Value} (hw : ∀ d ∈ tables_1, d.before ar0 Z = true) : EW Z ar0 own_EL := EW.cons (text := "") (hw _ (List.mem_of_getElem? (i := 22) rfl)) (by decide) EW.nil
theorem own_safe0 {Z : State} {EL : List (String × Nat)} {vm : Vm} {h : Heap} {a : Addr} (hal : Z.vm.Alike vm) (E : Exa Z h a "java/lang/String") (F : Fld Z h a "java/lang/String" "value" "[B" .null) : Safe Z EL vm h a := fun B => by
  obtain ⟨p, -, u, a', -, q, -, S, hy⟩ := B
  rcases hy with rfl | rfl
  · obtain ⟨cell, cf, k, i, f, h1, h2, h3, h4, h5, h6, h7⟩ := F
    cases (show h[q.sa]? = some q.sC from S.ha).symm.trans h1
    obtain ⟨cS, ⟨⟨s1, s2, s3, ⟨cv, kv, iv, s4, s4'⟩, -, s6, -, s8, -⟩, -⟩, -⟩ := S
    obtain ⟨kv', z4⟩ := ff_back (U := Wst Z vm h) hal s4
    have e := z4.symm.trans h2
    simp only [Option.some.injEq, Prod.mk.injEq] at e
    rw [← e.2.2.2] at h7
    cases s8.symm.trans h7
  · obtain ⟨cell, k, e1, e2, e3, -, -⟩ := E
    cases (show h[q.sd]? = some q.SA from S.hd).symm.trans e1
    obtain ⟨cS, -, -, f, -⟩ := S
    have f' : vm.findClass "[B" = some q.SA.cls := f
    rw [hal.findClass] at f'
    obtain ⟨k1, q1, q2⟩ := Vm.findClass_spec f'
    obtain ⟨k2, q3, q4⟩ := Vm.findClass_spec e2
    cases q1.symm.trans q3
    exact absurd (q2.symm.trans q4) (by decide)
def own_cs (n c d : Int32) : List Int32 := if n = (0 : Int32) then [] else if n = (1 : Int32) then [c] else [c, d]
theorem own_cs0 {n c d : Int32} (h : n = (0 : Int32)) : own_cs n c d = [] := if_pos h
theorem own_cs1 {n c d : Int32} (h : ¬ n = (0 : Int32)) (h1 : n = (1 : Int32)) : own_cs n c d = [c] := by unfold own_cs; rw [if_neg h, if_pos h1]
theorem own_cs2 {n c d : Int32} (h : ¬ n = (0 : Int32)) (h1 : ¬ n = (1 : Int32)) : own_cs n c d = [c, d] := by unfold own_cs; rw [if_neg h, if_neg h1]
abbrev own_R (c : Int32) : Prop := ¬ c < 0 ∧ ¬ (255 : Int32) < c
theorem own_hpcs {n c d : Int32} (hc : own_R c) (hd : own_R d) : ∀ x ∈ own_cs n c d, ¬ x < 0 ∧ ¬ (255 : Int32) < x := by
  intro x hx
  unfold own_cs at hx
  split at hx
  · cases hx
  · split at hx
    · cases List.mem_singleton.mp hx; exact hc
    · simp only [List.mem_cons, List.not_mem_nil, or_false] at hx
      rcases hx with rfl | rfl
      · exact hc
      · exact hd
theorem own_hlcs {n c d : Int32} : (own_cs n c d).length ≤ 4000 := by
  unfold own_cs
  split
  · exact Nat.le_of_ble_eq_true rfl
  · split
    · exact Nat.le_of_ble_eq_true rfl
    · exact Nat.le_of_ble_eq_true rfl
theorem own_hcdG {cs : List Int32} (h : ∀ x ∈ cs, ¬ x < 0 ∧ ¬ (255 : Int32) < x) : StrChars.Road.CodA cs 0 (Int32.ofNat cs.length) ((cs.map (fun c => c.toInt8.toInt32)).map Value.int) := StrChars.Road.codOf rfl (fun x hx => (h x hx).2)
def own_eq (x y : List Int32) : Int32 := if x = y then 1 else 0
theorem own_eqv {x y : List Int32} {v : Option Value} (h : (v = some (.int 1) ∧ x = y) ∨ (v = some (.int 0) ∧ ¬ x = y)) : v = some (.int (own_eq x y)) := by
  unfold own_eq
  rcases h with ⟨h, q⟩ | ⟨h, q⟩
  · rw [if_pos q]; exact h
  · rw [if_neg q]; exact h
theorem own_small (n : Nat) (hn : n < 2 ^ 31) (x : Int32) (h0 : 0 ≤ x.toInt) (h1 : x.toInt < n) : ∃ k : Fin n, x = Int32.ofNat k := by
  refine ⟨⟨x.toInt.toNat, by omega⟩, ?_⟩
  apply Int32.toInt_inj.mp
  rw [Int32.toInt_ofNat_of_lt (by show x.toInt.toNat < 2 ^ 31; omega)]
  show x.toInt = (x.toInt.toNat : Int)
  omega
theorem own_R256 {c : Int32} (h : own_R c) : ∃ k : Fin 256, c = Int32.ofNat k := by
  obtain ⟨h1, h2⟩ := h
  rw [Int32.lt_iff_toInt_lt] at h1 h2
  have e0 : (0 : Int32).toInt = 0 := by decide
  have e1 : (255 : Int32).toInt = 255 := by decide
  exact own_small 256 (by decide) c (by omega) (by omega)
theorem own_nar {c : Int32} (h : own_R c) : nar .char c = c := by
  obtain ⟨k, e⟩ := own_R256 h
  have d : ∀ k : Fin 256, nar .char (Int32.ofNat k) = Int32.ofNat k := by decide +kernel
  rw [e]; exact d k
theorem own_i8 (c : Int32) : (c.toInt8.toInt32).toInt8.toInt32 = c.toInt8.toInt32 := by simp
theorem own_hp2 {c d : Int32} (hc : own_R c) (hd : own_R d) : ∀ x ∈ ([(nar .char c), (nar .char d)] : List Int32), ¬ x < 0 ∧ ¬ (255 : Int32) < x := by
  intro x hx
  rw [own_nar hc, own_nar hd] at hx
  simp only [List.mem_cons, List.not_mem_nil, or_false] at hx
  rcases hx with rfl | rfl
  · exact hc
  · exact hd
theorem own_neI {t : Term} {k : Int32} {args : Array Value} {s : State} {x : Int32} (ht : t.eval args s none [] s = some (.int x)) (h : (Cond.not (.eq t (.int k))).value args s none s [] = some true) : ¬ (x = k) := by
  have q := not_v h
  intro e
  simp [Cond.value, ht, Term.eval, e] at q

theorem d1_0 : decode jdk_29_method_69_code 0 = .ok (.iload_n 0, 1) := by decide +kernel
theorem d1_1 : decode jdk_29_method_69_code 1 = .ok (.iload_n 1, 1) := by decide +kernel
theorem d1_2 : decode jdk_29_method_69_code 2 = .ok (.if_icmp .gt 7, 3) := by decide +kernel
theorem d1_5 : decode jdk_29_method_69_code 5 = .ok (.iload_n 0, 1) := by decide +kernel
theorem d1_6 : decode jdk_29_method_69_code 6 = .ok (.goto 4, 3) := by decide +kernel
theorem d1_9 : decode jdk_29_method_69_code 9 = .ok (.iload_n 1, 1) := by decide +kernel
theorem d1_10 : decode jdk_29_method_69_code 10 = .ok (.ireturn, 1) := by decide +kernel
theorem ef_1 (m : MethodId) (x0 : Int32) (x1 : Int32) : entryFrame m #[(.int x0), (.int x1)] 2 = mkF m 0 #[.val (.int x0), .val (.int x1)] [] := by first | (simp [entryFrame, mkF, argsToLocals, Value.category]; done) | rfl
def f1 (p0 : Int32) (p1 : Int32) : Int32 := (if p1 < p0 then p1 else p0)
def Q1 (Z : State) (p0 : Int32) (p1 : Int32) (h0 : Heap) (n0 : Nat) (v : Option Value) (h : Heap) (L : List Loc) : Prop := v = some (.int (f1 p0 p1)) ∧ Fr n0 L ∧ h = h0
set_option maxRecDepth 65536 in
set_option maxHeartbeats 40000000 in
theorem rm1 (l : Launch) (Z : State) (ar0 : Array Value) (hw : ∀ d ∈ tables_1, d.before ar0 Z = true) (ws : List Jvm.Cond) (p0 : Int32) (p1 : Int32) (h0 : Heap) (n0 : Nat) (Z0 : n0 ≤ h0.size) :
    MetFree l (⟨"java/lang/Math", "min", "(II)I"⟩ : MethodName) (head1 (Jvm.Cond.code (⟨"java/lang/Math", "min", "(II)I"⟩ : MethodName) jdk_29_method_69_code 2 (some .int) :: ws) ({ frames := 0, cells := 0, slots := 0, locals := 0 } : Room)) (fun a U => a = #[(.int p0), (.int p1)] ∧ Z.Warmed39 U.vm ∧ U.heap = h0) (fun _ _ _ _ _ => True) (fun _ U o U' => ∃ v L, o = .returned v ∧ Q1 Z p0 p1 h0 n0 v U'.heap L ∧ FrameEnd U o U' L ({ frames := 0, cells := 0, slots := 0, locals := 0 } : Room).cells ({ frames := 0, cells := 0, slots := 0, locals := 0 } : Room).slots) := by
  refine MetFree.of_bodySF (Jvm.Free.JP.mathPlain rfl (by decide +kernel)) hisR ?_
  intro p e s m args below meth c s₁ Bd hml0 hP hK
  obtain ⟨rfl, hZ, hh⟩ := hP
  have hx := Bd.exec
  have hby := Bd.bytes
  have hml : c.maxLocals = 2 := hml0
  have hown : s.vm.findClass "java/lang/Math" = some m.cls := by have q := findClass_of_methodNamed Bd.named; exact q
  have hnm := (name_of_methodNamed Bd.named Bd.method).1
  have X0 : Stand p l e ({ frames := 0, cells := 0, slots := 0, locals := 0 } : Room) s m #[(.int p0), (.int p1)] below meth c s₁ [] 0 0 := Stand.of_body Bd
  have e0 : s₁.heap = h0 := by rw [← hh, Bd.state]; rfl
  have N0 := Fr.nil n0
  have pre0 : ∀ t, Steps p.tables e below (s₁.setTop (mkF m 0 #[.val (.int p0), .val (.int p1)] [])) t → Steps p.tables e below (s₁.setTop (entryFrame m #[(.int p0), (.int p1)] 2)) t := fun t k => castTop (ef_1 m p0 p1) k
  have pre1 : ∀ t, Steps p.tables e below (s₁.setTop (mkF m 2 #[.val (.int p0), .val (.int p1)] [(.int p1), (.int p0)])) t → Steps p.tables e below (s₁.setTop (entryFrame m #[(.int p0), (.int p1)] 2)) t := by
    intro t k
    refine pre0 t ?_
    show Steps p.tables e below (s₁.setTop (mkF m 0 #[.val (.int p0), .val (.int p1)] [])) _
    refine XS.iloadN X0.here hx rfl (hb hby d1_0) rfl ?_
    refine XS.iloadN X0.here hx rfl (hb hby d1_1) rfl ?_
    exact k
  by_cases hc2_2 : p1 < p0
  · obtain ⟨fs, hr, hrun, hended, hW, hsame⟩ := X0.leave (v := some (.int p1)) (fun h => by rw [Bd.returns] at h; cases h)
    refine ⟨_, _, pre1 _ ?_, hrun, hended, _, _, rfl, ?_, ⟨_, rfl⟩, hW, hsame.mono (by decide) (by decide)⟩
    · show Steps p.tables e below (s₁.setTop (mkF m 2 #[.val (.int p0), .val (.int p1)] [(.int p1), (.int p0)])) _
      refine XS.icmpYes X0.here hx rfl (pc0 := 2) (pc' := 9) rfl (hb hby d1_2) rfl (tlt hc2_2).2.2.1 (by decide) (by decide) ?_
      refine XS.iloadN X0.here hx rfl (hb hby d1_9) rfl ?_
      exact retOut X0 hx Bd.returns rfl (Or.inl ⟨rfl, Or.inl rfl, _, rfl⟩) (hb hby d1_10) hr
    · show Q1 Z p0 p1 h0 n0 _ s₁.heap _
      rw [e0]
      exact ⟨by unfold f1; rw [if_pos hc2_2], N0, rfl⟩
  · obtain ⟨fs, hr, hrun, hended, hW, hsame⟩ := X0.leave (v := some (.int p0)) (fun h => by rw [Bd.returns] at h; cases h)
    refine ⟨_, _, pre1 _ ?_, hrun, hended, _, _, rfl, ?_, ⟨_, rfl⟩, hW, hsame.mono (by decide) (by decide)⟩
    · show Steps p.tables e below (s₁.setTop (mkF m 2 #[.val (.int p0), .val (.int p1)] [(.int p1), (.int p0)])) _
      refine XS.icmpNo X0.here hx rfl (hb hby d1_2) rfl (flt hc2_2).2.2.1 ?_
      refine XS.iloadN X0.here hx rfl (hb hby d1_5) rfl ?_
      refine XS.goto X0.here hx rfl (pc0 := 6) (pc' := 10) rfl (hb hby d1_6) (by decide) (by decide) ?_
      exact retOut X0 hx Bd.returns rfl (Or.inl ⟨rfl, Or.inl rfl, _, rfl⟩) (hb hby d1_10) hr
    · show Q1 Z p0 p1 h0 n0 _ s₁.heap _
      rw [e0]
      exact ⟨by unfold f1; rw [if_neg hc2_2], N0, rfl⟩
theorem pn_0 : plainName "java/lang/String" = true := by first | (simp [plainName, overriddenIn]; done) | decide +kernel
theorem d4_0 : decode jdk_42_method_149_code 0 = .ok (.aload_n 0, 1) := by decide +kernel
theorem d4_1 : decode jdk_42_method_149_code 1 = .ok (.invokespecial 1, 3) := by decide +kernel
theorem d4_4 : decode jdk_42_method_149_code 4 = .ok (.iload_n 3, 1) := by decide +kernel
theorem d4_5 : decode jdk_42_method_149_code 5 = .ok (.ifCond .ne 22, 3) := by decide +kernel
theorem d4_8 : decode jdk_42_method_149_code 8 = .ok (.aload_n 0, 1) := by decide +kernel
theorem d4_9 : decode jdk_42_method_149_code 9 = .ok (.ldc 7, 2) := by decide +kernel
theorem d4_11 : decode jdk_42_method_149_code 11 = .ok (.getfield 9, 3) := by decide +kernel
theorem d4_14 : decode jdk_42_method_149_code 14 = .ok (.putfield 9, 3) := by decide +kernel
theorem d4_17 : decode jdk_42_method_149_code 17 = .ok (.aload_n 0, 1) := by decide +kernel
theorem d4_18 : decode jdk_42_method_149_code 18 = .ok (.ldc 7, 2) := by decide +kernel
theorem d4_20 : decode jdk_42_method_149_code 20 = .ok (.getfield 15, 3) := by decide +kernel
theorem d4_23 : decode jdk_42_method_149_code 23 = .ok (.putfield 15, 3) := by decide +kernel
theorem d4_26 : decode jdk_42_method_149_code 26 = .ok (.return_, 1) := by decide +kernel
theorem ef_4_0 (m : MethodId) (x0 : Addr) (x1 : Addr) (x2 : Int32) (x3 : Int32) : entryFrame m #[(.ref x0), (.ref x1), (.int x3), (.int x3), .null] 6 = mkF m 0 #[.val (.ref x0), .val (.ref x1), .val (.int x3), .val (.int x3), .val .null, .unset] [] := by first | (simp [entryFrame, mkF, argsToLocals, Value.category]; done) | rfl
def Q4_0 (Z : State) (a0 : Addr) (a1 : Addr) (h0 : Heap) (n0 : Nat) (v : Option Value) (h : Heap) (L : List Loc) : Prop := ∃ (t : Addr) (k_t : ClassId), v = none ∧ Fr n0 L ∧ Keep h0 h [a0] ∧ Exa Z h a0 "java/lang/String" ∧ Fld Z h a0 "java/lang/String" "value" "[B" (.ref t) ∧ Fld Z h a0 "java/lang/String" "coder" "B" (.int (0 : Int32)) ∧ Arv Z h t k_t .byte (0 : Int32) ((([] : List Int32).map (fun c => c.toInt8.toInt32)).map Value.int) (.int (0 : Int32))
set_option maxRecDepth 65536 in
set_option maxHeartbeats 40000000 in
theorem rm4_0 (l : Launch) (Z : State) (ar0 : Array Value) (hw : ∀ d ∈ tables_1, d.before ar0 Z = true) (ws : List Jvm.Cond) (a0 : Addr) (a1 : Addr) (h0 : Heap) (n0 : Nat) (Z0 : n0 ≤ h0.size) (E_a0 : Exa Z h0 a0 "java/lang/String") (F_value_a0 : Fld Z h0 a0 "java/lang/String" "value" "[B" .null) (F_coder_a0 : Fld Z h0 a0 "java/lang/String" "coder" "B" (.int (0 : Int32))) (g_a0 : n0 ≤ a0) :
    MetFree l (⟨"java/lang/String", "<init>", "([CIILjava/lang/Void;)V"⟩ : MethodName) (head1 (Jvm.Cond.code (⟨"java/lang/String", "<init>", "([CIILjava/lang/Void;)V"⟩ : MethodName) jdk_42_method_149_code 6 none :: ws) ({ frames := 1, cells := 4, slots := 8, locals := 12 } : Room)) (fun a U => a = #[(.ref a0), (.ref a1), (.int (0 : Int32)), (.int (0 : Int32)), .null] ∧ Z.Warmed39 U.vm ∧ U.heap = h0 ∧ CHv Z own_EL U.vm h0) (fun _ _ _ _ _ => True) (fun _ U o U' => ∃ v L, o = .returned v ∧ Q4_0 Z a0 a1 h0 n0 v U'.heap L ∧ CHr Z own_EL U.vm U.heap U'.vm U'.heap ∧ ReturnedEndW U o U' L ({ frames := 1, cells := 4, slots := 8, locals := 12 } : Room).cells ({ frames := 1, cells := 4, slots := 8, locals := 12 } : Room).slots) := by
  refine MetFree.of_bodySF (plainFor_of_name pn_0) hisR ?_
  intro p e s m args below meth c s₁ Bd hml0 hP hK
  obtain ⟨rfl, hZ, hh, hC0⟩ := hP
  have hx := Bd.exec
  have hby := Bd.bytes
  have hml : c.maxLocals = 6 := hml0
  have hown : s.vm.findClass "java/lang/String" = some m.cls := by have q := findClass_of_methodNamed Bd.named; exact q
  have hnm := (name_of_methodNamed Bd.named Bd.method).1
  have X0 : Stand p l e ({ frames := 1, cells := 4, slots := 8, locals := 12 } : Room) s m #[(.ref a0), (.ref a1), (.int (0 : Int32)), (.int (0 : Int32)), .null] below meth c s₁ [] 0 0 := Stand.of_body Bd
  have e0 : s₁.heap = h0 := by rw [← hh, Bd.state]; rfl
  have N0 := Fr.nil n0
  have hS0 : s.Since s.vm 0 := own_since0 s
  have hCR0 : CHr Z own_EL s.vm h0 s.vm h0 := CHr.refl hC0
  have hEL : EW Z ar0 own_EL := own_EW hw
  have pre0 : ∀ t, Steps p.tables e below (s₁.setTop (mkF m 0 #[.val (.ref a0), .val (.ref a1), .val (.int (0 : Int32)), .val (.int (0 : Int32)), .val .null, .unset] [])) t → Steps p.tables e below (s₁.setTop (entryFrame m #[(.ref a0), (.ref a1), (.int (0 : Int32)), (.int (0 : Int32)), .null] 6)) t := fun t k => castTop (ef_4_0 m a0 a1 (0 : Int32) (0 : Int32)) k
  have pre3 : ∀ t, Steps p.tables e below (s₁.setTop (mkF m 1 #[.val (.ref a0), .val (.ref a1), .val (.int (0 : Int32)), .val (.int (0 : Int32)), .val .null, .unset] [(.ref a0)])) t → Steps p.tables e below (s₁.setTop (entryFrame m #[(.ref a0), (.ref a1), (.int (0 : Int32)), (.int (0 : Int32)), .null] 6)) t := by
    intro t k
    refine pre0 t ?_
    show Steps p.tables e below (s₁.setTop (mkF m 0 #[.val (.ref a0), .val (.ref a1), .val (.int (0 : Int32)), .val (.int (0 : Int32)), .val .null, .unset] [])) _
    refine XS.aloadN X0.here hx rfl (hb hby d4_0) rfl rfl ?_
    exact k
  obtain ⟨T4, X4, e4, st4⟩ := initO X0 hx hZ hown (hw _ (List.mem_of_getElem? (i := 19) rfl)) (hw _ (List.mem_of_getElem? (i := 20) rfl)) (hw _ (List.mem_of_getElem? (i := 21) rfl)) e0 (g := (mkF m 1 #[.val (.ref a0), .val (.ref a1), .val (.int (0 : Int32)), .val (.int (0 : Int32)), .val .null, .unset] [(.ref a0)])) rfl (by rw [hml]; rfl) rfl (hb hby d4_1) (by decide) (W := 0) (by show 2 * 0 + _ ≤ _; exact Nat.le_of_eq rfl) (by decide)
  have pre5 : ∀ t, Steps p.tables e below (T4.setTop (mkF m 4 #[.val (.ref a0), .val (.ref a1), .val (.int (0 : Int32)), .val (.int (0 : Int32)), .val .null, .unset] [])) t → Steps p.tables e below (s₁.setTop (entryFrame m #[(.ref a0), (.ref a1), (.int (0 : Int32)), (.int (0 : Int32)), .null] 6)) t := fun t k => pre3 t (st4 t k)
  have pre6 : ∀ t, Steps p.tables e below (T4.setTop (mkF m 9 #[.val (.ref a0), .val (.ref a1), .val (.int (0 : Int32)), .val (.int (0 : Int32)), .val .null, .unset] [(.ref a0)])) t → Steps p.tables e below (s₁.setTop (entryFrame m #[(.ref a0), (.ref a1), (.int (0 : Int32)), (.int (0 : Int32)), .null] 6)) t := by
    intro t k
    refine pre5 t ?_
    show Steps p.tables e below (T4.setTop (mkF m 4 #[.val (.ref a0), .val (.ref a1), .val (.int (0 : Int32)), .val (.int (0 : Int32)), .val .null, .unset] [])) _
    refine XS.iloadN X4.here hx rfl (hb hby d4_4) rfl ?_
    refine XS.ifNo X4.here hx rfl (hb hby d4_5) rfl ((if0 _ _).trans (teq (by decide : (0 : Int32) = (0 : Int32))).2) ?_
    refine XS.aloadN X4.here hx rfl (hb hby d4_8) rfl rfl ?_
    exact k
  obtain ⟨a7, T7, h7, k7, b7, kb7, X7, e7, E7, hS7, hk7, hZ7, ho7, Ea7, Ca7, Va7, Ab7, la7, lb7, hC7, -, hn7, st7⟩ := ldcCH (s := s) (vm0 := s.vm) X4 hx hZ hown (hw _ (List.mem_of_getElem? (i := 22) rfl)) (own_strW hw) e4 hS0 (Nat.zero_le _) hEL (List.mem_of_getElem? (i := 0) rfl) hCR0.1 (vs := []) (z := (0 : Int32)) ⟨by decide, rfl⟩ (by decide) rfl (g := (mkF m 9 #[.val (.ref a0), .val (.ref a1), .val (.int (0 : Int32)), .val (.int (0 : Int32)), .val .null, .unset] [(.ref a0)])) rfl (hb hby d4_9) (n := 0) (by decide) (by decide) (by decide) (by decide)
  have sf_a0_7 := CHr.safe hC7 (E_a0).lt (own_safe0 hZ.alike E_a0 F_value_a0)
  have ne_a0_a7 := (hn7 _ sf_a0_7).1
  have ne_a0_b7 := (hn7 _ sf_a0_7).2
  have CR7 := hCR0.trans hC7
  have Z7 : n0 ≤ h7.size := Nat.le_trans Z0 E7.1
  have K7 : Keep h0 h7 [a0] := (Keep.refl h0 [a0]).ext E7
  have Ef8 : Exa Z h7 a0 "java/lang/String" := (E_a0).ext E7
  have Ff9 : Fld Z h7 a0 "java/lang/String" "value" "[B" .null := (F_value_a0).ext E7
  have Ff10 : Fld Z h7 a0 "java/lang/String" "coder" "B" (.int (0 : Int32)) := (F_coder_a0).ext E7
  have pre11 : ∀ t, Steps p.tables e below (T7.setTop (mkF m 11 #[.val (.ref a0), .val (.ref a1), .val (.int (0 : Int32)), .val (.int (0 : Int32)), .val .null, .unset] [(.ref a7), (.ref a0)])) t → Steps p.tables e below (s₁.setTop (entryFrame m #[(.ref a0), (.ref a1), (.int (0 : Int32)), (.int (0 : Int32)), .null] 6)) t := fun t k => pre6 t (st7 t k)
  obtain ⟨T12, X12, e12, st12⟩ := getF X7 hx hZ7 ho7 (host := "") (Or.inl (hw _ (List.mem_of_getElem? (i := 28) rfl))) Via.refl e7 Va7 (g := (mkF m 11 #[.val (.ref a0), .val (.ref a1), .val (.int (0 : Int32)), .val (.int (0 : Int32)), .val .null, .unset] [(.ref a7), (.ref a0)])) rfl rfl (hb hby d4_11)
  have pre13 : ∀ t, Steps p.tables e below (T12.setTop (mkF m 14 #[.val (.ref a0), .val (.ref a1), .val (.int (0 : Int32)), .val (.int (0 : Int32)), .val .null, .unset] [(.ref b7), (.ref a0)])) t → Steps p.tables e below (s₁.setTop (entryFrame m #[(.ref a0), (.ref a1), (.int (0 : Int32)), (.int (0 : Int32)), .null] 6)) t := fun t k => pre11 t (st12 t k)
  obtain ⟨T14, h14, X14, e14, W14, st14⟩ := putF X12 hx hZ7 ho7 (host := "") (Or.inl (hw _ (List.mem_of_getElem? (i := 28) rfl))) Via.refl e12 Ff9 Ef8 (Or.inr ⟨(hw _ (List.mem_of_getElem? (i := 24) rfl)), rfl, hnm⟩) (hw _ (List.mem_of_getElem? (i := 9) rfl)) (ty := (.array .byte)) (by decide) rfl rfl (g := (mkF m 14 #[.val (.ref a0), .val (.ref a1), .val (.int (0 : Int32)), .val (.int (0 : Int32)), .val .null, .unset] [(.ref b7), (.ref a0)])) rfl rfl (hb hby d4_14)
  have Z14 : n0 ≤ h14.size := Nat.le_trans Z7 (Keep.of_wr W14).1
  have K14 : Keep h0 h14 [a0] := K7.wr W14 (Or.inl (List.mem_of_getElem? (i := 0) rfl))
  have N14 := Fr.snoc X14 N0 g_a0
  have hk14 := Nat.le_trans hk7 (Keep.of_wr W14).1
  have sf_a0_14 := Safe.wr W14 sf_a0_7 CR7.1 sf_a0_7
  have CR14 := CR7.trans (CHr.wr W14 sf_a0_7 CR7.1)
  have Ef15 : Exa Z h14 a0 "java/lang/String" := (Ef8).wr W14
  have Ff16 : Fld Z h14 a0 "java/lang/String" "coder" "B" (.int (0 : Int32)) := (Ff10).other W14 (Or.inr (slot_ne (Or.inr (hw _ (List.mem_of_getElem? (i := 25) rfl))) (Or.inr (hw _ (List.mem_of_getElem? (i := 24) rfl))) (by decide) (t := .byte) (t' := (.array .byte)) (by decide) (by decide)))
  have Ef17 : Exa Z h14 a7 "java/lang/String" := (Ea7).wr W14
  have Ff18 : Fld Z h14 a7 "java/lang/String" "coder" "B" (.int (0 : Int32)) := (Ca7).other W14 (Or.inl ne_a0_a7.symm)
  have Ff19 : Fld Z h14 a7 "java/lang/String" "value" "[B" (.ref b7) := (Va7).other W14 (Or.inl ne_a0_a7.symm)
  have Vf20 : Arv Z h14 b7 kb7 .byte (0 : Int32) ((([] : List Int32).map (fun c => c.toInt8.toInt32)).map Value.int) (.int (0 : Int32)) := (Ab7).other W14 ne_a0_b7.symm
  have Fw14 : Fld Z h14 a0 "java/lang/String" "value" "[B" (.ref b7) := (Ff9).same W14
  have pre21 : ∀ t, Steps p.tables e below (T14.setTop (mkF m 17 #[.val (.ref a0), .val (.ref a1), .val (.int (0 : Int32)), .val (.int (0 : Int32)), .val .null, .unset] [])) t → Steps p.tables e below (s₁.setTop (entryFrame m #[(.ref a0), (.ref a1), (.int (0 : Int32)), (.int (0 : Int32)), .null] 6)) t := fun t k => pre13 t (st14 t k)
  have pre22 : ∀ t, Steps p.tables e below (T14.setTop (mkF m 18 #[.val (.ref a0), .val (.ref a1), .val (.int (0 : Int32)), .val (.int (0 : Int32)), .val .null, .unset] [(.ref a0)])) t → Steps p.tables e below (s₁.setTop (entryFrame m #[(.ref a0), (.ref a1), (.int (0 : Int32)), (.int (0 : Int32)), .null] 6)) t := by
    intro t k
    refine pre21 t ?_
    show Steps p.tables e below (T14.setTop (mkF m 17 #[.val (.ref a0), .val (.ref a1), .val (.int (0 : Int32)), .val (.int (0 : Int32)), .val .null, .unset] [])) _
    refine XS.aloadN X14.here hx rfl (hb hby d4_17) rfl rfl ?_
    exact k
  obtain ⟨a23, T23, h23, k23, b23, kb23, X23, e23, E23, hS23, hk23, hZ23, ho23, Ea23, Ca23, Va23, Ab23, la23, lb23, hC23, -, hn23, st23⟩ := ldcCH (s := s) (vm0 := T7.vm) X14 hx hZ7 ho7 (hw _ (List.mem_of_getElem? (i := 22) rfl)) (own_strW hw) e14 hS7 hk14 hEL (List.mem_of_getElem? (i := 0) rfl) CR14.1 (vs := []) (z := (0 : Int32)) ⟨by decide, rfl⟩ (by decide) rfl (g := (mkF m 18 #[.val (.ref a0), .val (.ref a1), .val (.int (0 : Int32)), .val (.int (0 : Int32)), .val .null, .unset] [(.ref a0)])) rfl (hb hby d4_18) (n := 0) (by decide) (by decide) (by decide) (by decide)
  have sf_a0_23 := CHr.safe hC23 (Ef15).lt sf_a0_14
  have ne_a0_a23 := (hn23 _ sf_a0_23).1
  have ne_a0_b23 := (hn23 _ sf_a0_23).2
  have CR23 := CR14.trans hC23
  have Z23 : n0 ≤ h23.size := Nat.le_trans Z14 E23.1
  have K23 : Keep h0 h23 [a0] := K14.ext E23
  have Ef24 : Exa Z h23 a0 "java/lang/String" := (Ef15).ext E23
  have Ff25 : Fld Z h23 a0 "java/lang/String" "coder" "B" (.int (0 : Int32)) := (Ff16).ext E23
  have Ef26 : Exa Z h23 a7 "java/lang/String" := (Ef17).ext E23
  have Ff27 : Fld Z h23 a7 "java/lang/String" "coder" "B" (.int (0 : Int32)) := (Ff18).ext E23
  have Ff28 : Fld Z h23 a7 "java/lang/String" "value" "[B" (.ref b7) := (Ff19).ext E23
  have Vf29 : Arv Z h23 b7 kb7 .byte (0 : Int32) ((([] : List Int32).map (fun c => c.toInt8.toInt32)).map Value.int) (.int (0 : Int32)) := (Vf20).ext E23
  have Ff30 : Fld Z h23 a0 "java/lang/String" "value" "[B" (.ref b7) := (Fw14).ext E23
  have pre31 : ∀ t, Steps p.tables e below (T23.setTop (mkF m 20 #[.val (.ref a0), .val (.ref a1), .val (.int (0 : Int32)), .val (.int (0 : Int32)), .val .null, .unset] [(.ref a23), (.ref a0)])) t → Steps p.tables e below (s₁.setTop (entryFrame m #[(.ref a0), (.ref a1), (.int (0 : Int32)), (.int (0 : Int32)), .null] 6)) t := fun t k => pre22 t (st23 t k)
  obtain ⟨T32, X32, e32, st32⟩ := getF X23 hx hZ23 ho23 (host := "") (Or.inl (hw _ (List.mem_of_getElem? (i := 29) rfl))) Via.refl e23 Ca23 (g := (mkF m 20 #[.val (.ref a0), .val (.ref a1), .val (.int (0 : Int32)), .val (.int (0 : Int32)), .val .null, .unset] [(.ref a23), (.ref a0)])) rfl rfl (hb hby d4_20)
  have pre33 : ∀ t, Steps p.tables e below (T32.setTop (mkF m 23 #[.val (.ref a0), .val (.ref a1), .val (.int (0 : Int32)), .val (.int (0 : Int32)), .val .null, .unset] [(.int (0 : Int32)), (.ref a0)])) t → Steps p.tables e below (s₁.setTop (entryFrame m #[(.ref a0), (.ref a1), (.int (0 : Int32)), (.int (0 : Int32)), .null] 6)) t := fun t k => pre31 t (st32 t k)
  obtain ⟨T34, h34, X34, e34, W34, st34⟩ := putFN X32 hx hZ23 ho23 (hw _ (List.mem_of_getElem? (i := 29) rfl)) Via.refl e32 Ff25 Ef24 (Or.inr ⟨(hw _ (List.mem_of_getElem? (i := 25) rfl)), rfl, hnm⟩) (hw _ (List.mem_of_getElem? (i := 9) rfl)) (ty := .byte) (v' := (.int (0 : Int32))) (by decide) rfl rfl (g := (mkF m 23 #[.val (.ref a0), .val (.ref a1), .val (.int (0 : Int32)), .val (.int (0 : Int32)), .val .null, .unset] [(.int (0 : Int32)), (.ref a0)])) rfl rfl (hb hby d4_23)
  have Z34 : n0 ≤ h34.size := Nat.le_trans Z23 (Keep.of_wr W34).1
  have K34 : Keep h0 h34 [a0] := K23.wr W34 (Or.inl (List.mem_of_getElem? (i := 0) rfl))
  have N34 := Fr.snoc X34 N14 g_a0
  have hk34 := Nat.le_trans hk23 (Keep.of_wr W34).1
  have sf_a0_34 := Safe.wr W34 sf_a0_23 CR23.1 sf_a0_23
  have CR34 := CR23.trans (CHr.wr W34 sf_a0_23 CR23.1)
  have Ef35 : Exa Z h34 a0 "java/lang/String" := (Ef24).wr W34
  have Ef36 : Exa Z h34 a7 "java/lang/String" := (Ef26).wr W34
  have Ff37 : Fld Z h34 a7 "java/lang/String" "coder" "B" (.int (0 : Int32)) := (Ff27).other W34 (Or.inl ne_a0_a7.symm)
  have Ff38 : Fld Z h34 a7 "java/lang/String" "value" "[B" (.ref b7) := (Ff28).other W34 (Or.inl ne_a0_a7.symm)
  have Vf39 : Arv Z h34 b7 kb7 .byte (0 : Int32) ((([] : List Int32).map (fun c => c.toInt8.toInt32)).map Value.int) (.int (0 : Int32)) := (Vf29).other W34 ne_a0_b7.symm
  have Ff40 : Fld Z h34 a0 "java/lang/String" "value" "[B" (.ref b7) := (Ff30).other W34 (Or.inr (slot_ne (Or.inr (hw _ (List.mem_of_getElem? (i := 24) rfl))) (Or.inr (hw _ (List.mem_of_getElem? (i := 25) rfl))) (by decide) (t := (.array .byte)) (t' := .byte) (by decide) (by decide)))
  have Ef41 : Exa Z h34 a23 "java/lang/String" := (Ea23).wr W34
  have Ff42 : Fld Z h34 a23 "java/lang/String" "coder" "B" (.int (0 : Int32)) := (Ca23).other W34 (Or.inl ne_a0_a23.symm)
  have Ff43 : Fld Z h34 a23 "java/lang/String" "value" "[B" (.ref b23) := (Va23).other W34 (Or.inl ne_a0_a23.symm)
  have Vf44 : Arv Z h34 b23 kb23 .byte (0 : Int32) ((([] : List Int32).map (fun c => c.toInt8.toInt32)).map Value.int) (.int (0 : Int32)) := (Ab23).other W34 ne_a0_b23.symm
  have Fw34 : Fld Z h34 a0 "java/lang/String" "coder" "B" (.int (0 : Int32)) := (Ff25).same W34
  have pre45 : ∀ t, Steps p.tables e below (T34.setTop (mkF m 26 #[.val (.ref a0), .val (.ref a1), .val (.int (0 : Int32)), .val (.int (0 : Int32)), .val .null, .unset] [])) t → Steps p.tables e below (s₁.setTop (entryFrame m #[(.ref a0), (.ref a1), (.int (0 : Int32)), (.int (0 : Int32)), .null] 6)) t := fun t k => pre33 t (st34 t k)
  obtain ⟨fs, hr, hrun, hended, hRW⟩ := X34.leaveW (s := s) (vm₁ := T23.vm) hS23 (by rw [e34]; first | exact hk34 | exact Nat.le_refl _) (v := none) (fun _ => rfl)
  refine ⟨_, _, pre45 _ ?_, hrun, hended, _, _, rfl, ?_, ?_, hRW.1, hRW.2.1, hRW.2.2.1, hRW.2.2.2.mono (by decide) (by decide)⟩
  · show Steps p.tables e below (T34.setTop (mkF m 26 #[.val (.ref a0), .val (.ref a1), .val (.int (0 : Int32)), .val (.int (0 : Int32)), .val .null, .unset] [])) _
    exact X34.returnOut hx Bd.returns (hb hby d4_26) hr
  · show Q4_0 Z a0 a1 h0 n0 _ T34.heap _
    rw [e34]
    exact ⟨b7, kb7, rfl, N34, K34, Ef35, Ff40, Fw34, Vf39⟩
  · have q := CR34.trans (CHv.at X34 hZ23 hEL CR34.1)
    rw [hh]
    show CHr _ _ _ _ T34.vm T34.heap
    rw [e34]
    exact q
theorem pd_0 : parseMethodDescriptor "([CIILjava/lang/Void;)V" = some ⟨[(.array .char), .int, .int, (.object "java/lang/Void")], none⟩ := by decide +kernel
theorem d3_0 : decode jdk_42_method_3_code 0 = .ok (.aload_n 0, 1) := by decide +kernel
theorem d3_1 : decode jdk_42_method_3_code 1 = .ok (.aload_n 1, 1) := by decide +kernel
theorem d3_2 : decode jdk_42_method_3_code 2 = .ok (.iconst 0, 1) := by decide +kernel
theorem d3_3 : decode jdk_42_method_3_code 3 = .ok (.aload_n 1, 1) := by decide +kernel
theorem d3_4 : decode jdk_42_method_3_code 4 = .ok (.arraylength, 1) := by decide +kernel
theorem d3_5 : decode jdk_42_method_3_code 5 = .ok (.aconst_null, 1) := by decide +kernel
theorem d3_6 : decode jdk_42_method_3_code 6 = .ok (.invokespecial 27, 3) := by decide +kernel
theorem d3_9 : decode jdk_42_method_3_code 9 = .ok (.return_, 1) := by decide +kernel
theorem ef_3 (m : MethodId) (x0 : Addr) (x1 : Addr) : entryFrame m #[(.ref x0), (.ref x1)] 2 = mkF m 0 #[.val (.ref x0), .val (.ref x1)] [] := by first | (simp [entryFrame, mkF, argsToLocals, Value.category]; done) | rfl
def Q3_0 (Z : State) (a0 : Addr) (a1 : Addr) (k_a1 : ClassId) (h0 : Heap) (n0 : Nat) (v : Option Value) (h : Heap) (L : List Loc) : Prop := ∃ (t : Addr) (k_t : ClassId), v = none ∧ Fr n0 L ∧ Keep h0 h [a0] ∧ Exa Z h a0 "java/lang/String" ∧ Fld Z h a0 "java/lang/String" "value" "[B" (.ref t) ∧ Fld Z h a0 "java/lang/String" "coder" "B" (.int (0 : Int32)) ∧ Arv Z h t k_t .byte (0 : Int32) ((([] : List Int32).map (fun c => c.toInt8.toInt32)).map Value.int) (.int (0 : Int32))
set_option maxRecDepth 65536 in
set_option maxHeartbeats 40000000 in
theorem rm3_0 (l : Launch) (Z : State) (ar0 : Array Value) (hw : ∀ d ∈ tables_1, d.before ar0 Z = true) (ws : List Jvm.Cond) (a0 : Addr) (a1 : Addr) (k_a1 : ClassId) (h0 : Heap) (n0 : Nat) (Z0 : n0 ≤ h0.size) (E_a0 : Exa Z h0 a0 "java/lang/String") (F_value_a0 : Fld Z h0 a0 "java/lang/String" "value" "[B" .null) (F_coder_a0 : Fld Z h0 a0 "java/lang/String" "coder" "B" (.int (0 : Int32))) (V_a1 : Arv Z h0 a1 k_a1 .char (0 : Int32) [] (.int (0 : Int32))) (g_a0 : n0 ≤ a0) (ne_a1_a0 : a1 ≠ a0) :
    MetFree l (⟨"java/lang/String", "<init>", "([C)V"⟩ : MethodName) (head1 (Jvm.Cond.code (⟨"java/lang/String", "<init>", "([C)V"⟩ : MethodName) jdk_42_method_3_code 2 none :: ws) ({ frames := 2, cells := 4, slots := 8, locals := 29 } : Room)) (fun a U => a = #[(.ref a0), (.ref a1)] ∧ Z.Warmed39 U.vm ∧ U.heap = h0 ∧ CHv Z own_EL U.vm h0) (fun _ _ _ _ _ => True) (fun _ U o U' => ∃ v L, o = .returned v ∧ Q3_0 Z a0 a1 k_a1 h0 n0 v U'.heap L ∧ CHr Z own_EL U.vm U.heap U'.vm U'.heap ∧ ReturnedEndW U o U' L ({ frames := 2, cells := 4, slots := 8, locals := 29 } : Room).cells ({ frames := 2, cells := 4, slots := 8, locals := 29 } : Room).slots) := by
  refine MetFree.of_bodySF (plainFor_of_name pn_0) hisR ?_
  intro p e s m args below meth c s₁ Bd hml0 hP hK
  obtain ⟨rfl, hZ, hh, hC0⟩ := hP
  have hx := Bd.exec
  have hby := Bd.bytes
  have hml : c.maxLocals = 2 := hml0
  have hown : s.vm.findClass "java/lang/String" = some m.cls := by have q := findClass_of_methodNamed Bd.named; exact q
  have hnm := (name_of_methodNamed Bd.named Bd.method).1
  have X0 : Stand p l e ({ frames := 2, cells := 4, slots := 8, locals := 29 } : Room) s m #[(.ref a0), (.ref a1)] below meth c s₁ [] 0 0 := Stand.of_body Bd
  have e0 : s₁.heap = h0 := by rw [← hh, Bd.state]; rfl
  have N0 := Fr.nil n0
  have hS0 : s.Since s.vm 0 := own_since0 s
  have hCR0 : CHr Z own_EL s.vm h0 s.vm h0 := CHr.refl hC0
  have hEL : EW Z ar0 own_EL := own_EW hw
  have pre0 : ∀ t, Steps p.tables e below (s₁.setTop (mkF m 0 #[.val (.ref a0), .val (.ref a1)] [])) t → Steps p.tables e below (s₁.setTop (entryFrame m #[(.ref a0), (.ref a1)] 2)) t := fun t k => castTop (ef_3 m a0 a1) k
  have pre46 : ∀ t, Steps p.tables e below (s₁.setTop (mkF m 4 #[.val (.ref a0), .val (.ref a1)] [(.ref a1), (.int (0 : Int32)), (.ref a1), (.ref a0)])) t → Steps p.tables e below (s₁.setTop (entryFrame m #[(.ref a0), (.ref a1)] 2)) t := by
    intro t k
    refine pre0 t ?_
    show Steps p.tables e below (s₁.setTop (mkF m 0 #[.val (.ref a0), .val (.ref a1)] [])) _
    refine XS.aloadN X0.here hx rfl (hb hby d3_0) rfl rfl ?_
    refine XS.aloadN X0.here hx rfl (hb hby d3_1) rfl rfl ?_
    refine XS.iconst X0.here hx rfl (hb hby d3_2) ?_
    refine XS.aloadN X0.here hx rfl (hb hby d3_3) rfl rfl ?_
    exact k
  obtain ⟨cl47, Ar47, q47, S47, M47, H47, G47⟩ := id V_a1
  have pre48 : ∀ t, Steps p.tables e below (s₁.setTop (mkF m 6 #[.val (.ref a0), .val (.ref a1)] [.null, (.int (0 : Int32)), (.int (0 : Int32)), (.ref a1), (.ref a0)])) t → Steps p.tables e below (s₁.setTop (entryFrame m #[(.ref a0), (.ref a1)] 2)) t := by
    intro t k
    refine pre46 t ?_
    show Steps p.tables e below (s₁.setTop (mkF m 4 #[.val (.ref a0), .val (.ref a1)] [(.ref a1), (.int (0 : Int32)), (.ref a1), (.ref a0)])) _
    refine X0.arraylength hx (by rw [e0]; exact Ar47.1) (State.isArrayOf_alike hZ.alike Ar47.2.1) (g := (mkF m 4 #[.val (.ref a0), .val (.ref a1)] [(.ref a1), (.int (0 : Int32)), (.ref a1), (.ref a0)])) rfl rfl (hb hby d3_4) _ ?_
    rw [len_of S47 M47]
    refine XS.aconstNull X0.here hx rfl (hb hby d3_5) ?_
    exact k
  obtain ⟨_, _, ⟨T49, L49, k49, n49⟩, -, X49r, hS49r, hg49r, ⟨Lc49, hQ49, l49, y49, z49, hC49⟩, st49⟩ := X0.specialBackS hx (y := (⟨"java/lang/String", "<init>", "([CIILjava/lang/Void;)V"⟩ : MethodName)) rfl hown (mvT hZ (hw _ (List.mem_of_getElem? (i := 15) rfl))) (mvT hZ (hw _ (List.mem_of_getElem? (i := 16) rfl))) (mvT hZ (hw _ (List.mem_of_getElem? (i := 18) rfl))) (by decide) (backOfSH (W := 0) (rm4_0 l Z ar0 hw [] a0 a1 h0 n0 Z0 E_a0 F_value_a0 F_coder_a0 g_a0) hZ (hw _ (List.mem_of_getElem? (i := 18) rfl)) (hw _ (List.mem_of_getElem? (i := 10) rfl)) (by decide) (by decide) hEL hCR0.1) (g := (mkF m 6 #[.val (.ref a0), .val (.ref a1)] [.null, (.int (0 : Int32)), (.int (0 : Int32)), (.ref a1), (.ref a0)])) rfl (by rw [hml]; rfl) (Steps.refl _) (a := a0) (argsL := [(.ref a1), (.int (0 : Int32)), (.int (0 : Int32)), .null]) (rest := []) (lenOf pd_0 rfl) rfl (by show 2 * 0 + _ ≤ _; exact Nat.le_of_eq rfl) (hb hby d3_6) (fun _ _ => ⟨rfl, e0, (by decide : 0 + 4 ≤ _), (by decide : 0 + 8 ≤ _)⟩)
  dsimp only [Pt.U, Pt.locs, Pt.cells, Pt.slots] at X49r hS49r hg49r l49 y49 z49 st49 hQ49 hC49
  subst l49 y49 z49
  obtain ⟨X49, hS49, hZ49, ho49⟩ := rebS (s := s) (vm0 := s.vm) (n1 := s₁.heap.size) hS0 (by rw [e0]; first | exact (Nat.zero_le _) | exact Nat.le_refl _) X49r hS49r hg49r hZ hown
  obtain ⟨h49, e49⟩ : ∃ h, T49.heap = h := ⟨_, rfl⟩
  rw [e49] at hQ49
  obtain ⟨b49, kb49, rfl, N49q, K49q, Q49_0, Q49_1, Q49_2, Ob49_0⟩ := hQ49
  have N49 := Fr.app N0 N49q
  have Z49 : n0 ≤ h49.size := Nat.le_trans Z0 K49q.1
  have K49 : Keep h0 h49 [a0] := (Keep.refl h0 [a0]).trans K49q (fun x hx => by cases List.mem_singleton.mp hx; exact Or.inl (List.mem_of_getElem? (i := 0) rfl))
  have Ef50 : Exa Z h49 a0 "java/lang/String" := (E_a0).keep K49q
  have Vf51 : Arv Z h49 a1 k_a1 .char (0 : Int32) [] (.int (0 : Int32)) := (V_a1).keep K49q (fun q => absurd (List.mem_singleton.mp q) ne_a1_a0)
  rw [e49] at hC49
  have CR49 := hCR0.trans hC49
  have hk49 : T49.heap.size ≤ h49.size := by rw [e49]; exact Nat.le_refl _
  have pre52 : ∀ t, Steps p.tables e below (T49.setTop (mkF m 9 #[.val (.ref a0), .val (.ref a1)] [])) t → Steps p.tables e below (s₁.setTop (entryFrame m #[(.ref a0), (.ref a1)] 2)) t := fun t k => pre48 t (st49.trans k)
  obtain ⟨fs, hr, hrun, hended, hRW⟩ := X49.leaveW (s := s) (vm₁ := T49.vm) hS49 (by rw [e49]; first | exact hk49 | exact Nat.le_refl _) (v := none) (fun _ => rfl)
  refine ⟨_, _, pre52 _ ?_, hrun, hended, _, _, rfl, ?_, ?_, hRW.1, hRW.2.1, hRW.2.2.1, hRW.2.2.2.mono (by decide) (by decide)⟩
  · show Steps p.tables e below (T49.setTop (mkF m 9 #[.val (.ref a0), .val (.ref a1)] [])) _
    exact X49.returnOut hx Bd.returns (hb hby d3_9) hr
  · show Q3_0 Z a0 a1 k_a1 h0 n0 _ T49.heap _
    rw [e49]
    exact ⟨b49, kb49, rfl, N49, K49, Q49_0, Q49_1, Q49_2, Ob49_0⟩
  · have q := CR49.trans (CHv.at X49 hZ49 hEL CR49.1)
    rw [hh]
    show CHr _ _ _ _ T49.vm T49.heap
    rw [e49]
    exact q
theorem pn_1 : plainName "java/lang/StringLatin1" = true := by first | (simp [plainName, overriddenIn]; done) | decide +kernel
theorem d11_0 : decode jdk_43_method_3_code 0 = .ok (.iload_n 0, 1) := by decide +kernel
theorem d11_1 : decode jdk_43_method_3_code 1 = .ok (.sipush 255, 3) := by decide +kernel
theorem d11_4 : decode jdk_43_method_3_code 4 = .ok (.if_icmp .gt 7, 3) := by decide +kernel
theorem d11_7 : decode jdk_43_method_3_code 7 = .ok (.iconst 1, 1) := by decide +kernel
theorem d11_8 : decode jdk_43_method_3_code 8 = .ok (.goto 4, 3) := by decide +kernel
theorem d11_11 : decode jdk_43_method_3_code 11 = .ok (.iconst 0, 1) := by decide +kernel
theorem d11_12 : decode jdk_43_method_3_code 12 = .ok (.ireturn, 1) := by decide +kernel
theorem ef_11 (m : MethodId) (x0 : Int32) : entryFrame m #[(.int x0)] 1 = mkF m 0 #[.val (.int x0)] [] := by first | (simp [entryFrame, mkF, argsToLocals, Value.category]; done) | rfl
def f11 (p0 : Int32) : Int32 := (if (255 : Int32) < p0 then (0 : Int32) else (1 : Int32))
def Q11 (Z : State) (p0 : Int32) (h0 : Heap) (n0 : Nat) (v : Option Value) (h : Heap) (L : List Loc) : Prop := v = some (.int (f11 p0)) ∧ Fr n0 L ∧ h = h0
set_option maxRecDepth 65536 in
set_option maxHeartbeats 40000000 in
theorem rm11 (l : Launch) (Z : State) (ar0 : Array Value) (hw : ∀ d ∈ tables_1, d.before ar0 Z = true) (ws : List Jvm.Cond) (p0 : Int32) (h0 : Heap) (n0 : Nat) (Z0 : n0 ≤ h0.size) :
    MetFree l (⟨"java/lang/StringLatin1", "canEncode", "(C)Z"⟩ : MethodName) (head1 (Jvm.Cond.code (⟨"java/lang/StringLatin1", "canEncode", "(C)Z"⟩ : MethodName) jdk_43_method_3_code 1 (some .boolean) :: ws) ({ frames := 0, cells := 0, slots := 0, locals := 0 } : Room)) (fun a U => a = #[(.int p0)] ∧ Z.Warmed39 U.vm ∧ U.heap = h0) (fun _ _ _ _ _ => True) (fun _ U o U' => ∃ v L, o = .returned v ∧ Q11 Z p0 h0 n0 v U'.heap L ∧ FrameEnd U o U' L ({ frames := 0, cells := 0, slots := 0, locals := 0 } : Room).cells ({ frames := 0, cells := 0, slots := 0, locals := 0 } : Room).slots) := by
  refine MetFree.of_bodySF (plainFor_of_name pn_1) hisR ?_
  intro p e s m args below meth c s₁ Bd hml0 hP hK
  obtain ⟨rfl, hZ, hh⟩ := hP
  have hx := Bd.exec
  have hby := Bd.bytes
  have hml : c.maxLocals = 1 := hml0
  have hown : s.vm.findClass "java/lang/StringLatin1" = some m.cls := by have q := findClass_of_methodNamed Bd.named; exact q
  have hnm := (name_of_methodNamed Bd.named Bd.method).1
  have X0 : Stand p l e ({ frames := 0, cells := 0, slots := 0, locals := 0 } : Room) s m #[(.int p0)] below meth c s₁ [] 0 0 := Stand.of_body Bd
  have e0 : s₁.heap = h0 := by rw [← hh, Bd.state]; rfl
  have N0 := Fr.nil n0
  have pre0 : ∀ t, Steps p.tables e below (s₁.setTop (mkF m 0 #[.val (.int p0)] [])) t → Steps p.tables e below (s₁.setTop (entryFrame m #[(.int p0)] 1)) t := fun t k => castTop (ef_11 m p0) k
  have pre53 : ∀ t, Steps p.tables e below (s₁.setTop (mkF m 4 #[.val (.int p0)] [(.int (255 : Int32)), (.int p0)])) t → Steps p.tables e below (s₁.setTop (entryFrame m #[(.int p0)] 1)) t := by
    intro t k
    refine pre0 t ?_
    show Steps p.tables e below (s₁.setTop (mkF m 0 #[.val (.int p0)] [])) _
    refine XS.iloadN X0.here hx rfl (hb hby d11_0) rfl ?_
    refine XS.sipush X0.here hx rfl (hb hby d11_1) ?_
    exact k
  by_cases hc4_54 : (255 : Int32) < p0
  · obtain ⟨fs, hr, hrun, hended, hW, hsame⟩ := X0.leave (v := some (.int (0 : Int32))) (fun h => by rw [Bd.returns] at h; cases h)
    refine ⟨_, _, pre53 _ ?_, hrun, hended, _, _, rfl, ?_, ⟨_, rfl⟩, hW, hsame.mono (by decide) (by decide)⟩
    · show Steps p.tables e below (s₁.setTop (mkF m 4 #[.val (.int p0)] [(.int (255 : Int32)), (.int p0)])) _
      refine XS.icmpYes X0.here hx rfl (pc0 := 4) (pc' := 11) rfl (hb hby d11_4) rfl (tlt hc4_54).2.2.1 (by decide) (by decide) ?_
      refine XS.iconst X0.here hx rfl (hb hby d11_11) ?_
      exact retN X0 hx (t := .boolean) Bd.returns (by simp) (hb hby d11_12) hr
    · show Q11 Z p0 h0 n0 _ s₁.heap _
      rw [e0]
      exact ⟨by unfold f11; rw [if_pos hc4_54], N0, rfl⟩
  · obtain ⟨fs, hr, hrun, hended, hW, hsame⟩ := X0.leave (v := some (.int (1 : Int32))) (fun h => by rw [Bd.returns] at h; cases h)
    refine ⟨_, _, pre53 _ ?_, hrun, hended, _, _, rfl, ?_, ⟨_, rfl⟩, hW, hsame.mono (by decide) (by decide)⟩
    · show Steps p.tables e below (s₁.setTop (mkF m 4 #[.val (.int p0)] [(.int (255 : Int32)), (.int p0)])) _
      refine XS.icmpNo X0.here hx rfl (hb hby d11_4) rfl (flt hc4_54).2.2.1 ?_
      refine XS.iconst X0.here hx rfl (hb hby d11_7) ?_
      refine XS.goto X0.here hx rfl (pc0 := 8) (pc' := 12) rfl (hb hby d11_8) (by decide) (by decide) ?_
      exact retN X0 hx (t := .boolean) Bd.returns (by simp) (hb hby d11_12) hr
    · show Q11 Z p0 h0 n0 _ s₁.heap _
      rw [e0]
      exact ⟨by unfold f11; rw [if_neg hc4_54], N0, rfl⟩
theorem d12_0 : decode jdk_43_method_46_code 0 = .ok (.iconst 1, 1) := by decide +kernel
theorem d12_1 : decode jdk_43_method_46_code 1 = .ok (.newarray .byte, 2) := by decide +kernel
theorem d12_3 : decode jdk_43_method_46_code 3 = .ok (.dup, 1) := by decide +kernel
theorem d12_4 : decode jdk_43_method_46_code 4 = .ok (.iconst 0, 1) := by decide +kernel
theorem d12_5 : decode jdk_43_method_46_code 5 = .ok (.iload_n 0, 1) := by decide +kernel
theorem d12_6 : decode jdk_43_method_46_code 6 = .ok (.i2b, 1) := by decide +kernel
theorem d12_7 : decode jdk_43_method_46_code 7 = .ok (.bastore, 1) := by decide +kernel
theorem d12_8 : decode jdk_43_method_46_code 8 = .ok (.areturn, 1) := by decide +kernel
theorem ef_12 (m : MethodId) (x0 : Int32) : entryFrame m #[(.int x0)] 1 = mkF m 0 #[.val (.int x0)] [] := by first | (simp [entryFrame, mkF, argsToLocals, Value.category]; done) | rfl
def Q12 (Z : State) (p0 : Int32) (h0 : Heap) (n0 : Nat) (v : Option Value) (h : Heap) (L : List Loc) : Prop := ∃ (b : Addr) (k_b : ClassId), v = some (.ref b) ∧ Fr n0 L ∧ Keep h0 h [] ∧ h0.size ≤ b ∧ Exa Z h b "[B" ∧ Arv Z h b k_b .byte (1 : Int32) [(.int ((p0.toInt8.toInt32).toInt8.toInt32))] (.int (0 : Int32))
set_option maxRecDepth 65536 in
set_option maxHeartbeats 40000000 in
theorem rm12 (l : Launch) (Z : State) (ar0 : Array Value) (hw : ∀ d ∈ tables_1, d.before ar0 Z = true) (ws : List Jvm.Cond) (p0 : Int32) (h0 : Heap) (n0 : Nat) (Z0 : n0 ≤ h0.size) :
    MetFree l (⟨"java/lang/StringLatin1", "toBytes", "(C)[B"⟩ : MethodName) (head1 (Jvm.Cond.code (⟨"java/lang/StringLatin1", "toBytes", "(C)[B"⟩ : MethodName) jdk_43_method_46_code 1 (some (.array .byte)) :: ws) ({ frames := 0, cells := 1, slots := 1, locals := 0 } : Room)) (fun a U => a = #[(.int p0)] ∧ Z.Warmed39 U.vm ∧ U.heap = h0) (fun _ _ _ _ _ => True) (fun _ U o U' => ∃ v L, o = .returned v ∧ Q12 Z p0 h0 n0 v U'.heap L ∧ FrameEnd U o U' L ({ frames := 0, cells := 1, slots := 1, locals := 0 } : Room).cells ({ frames := 0, cells := 1, slots := 1, locals := 0 } : Room).slots) := by
  refine MetFree.of_bodySF (plainFor_of_name pn_1) hisR ?_
  intro p e s m args below meth c s₁ Bd hml0 hP hK
  obtain ⟨rfl, hZ, hh⟩ := hP
  have hx := Bd.exec
  have hby := Bd.bytes
  have hml : c.maxLocals = 1 := hml0
  have hown : s.vm.findClass "java/lang/StringLatin1" = some m.cls := by have q := findClass_of_methodNamed Bd.named; exact q
  have hnm := (name_of_methodNamed Bd.named Bd.method).1
  have X0 : Stand p l e ({ frames := 0, cells := 1, slots := 1, locals := 0 } : Room) s m #[(.int p0)] below meth c s₁ [] 0 0 := Stand.of_body Bd
  have e0 : s₁.heap = h0 := by rw [← hh, Bd.state]; rfl
  have N0 := Fr.nil n0
  have pre0 : ∀ t, Steps p.tables e below (s₁.setTop (mkF m 0 #[.val (.int p0)] [])) t → Steps p.tables e below (s₁.setTop (entryFrame m #[(.int p0)] 1)) t := fun t k => castTop (ef_12 m p0) k
  have pre55 : ∀ t, Steps p.tables e below (s₁.setTop (mkF m 1 #[.val (.int p0)] [(.int (1 : Int32))])) t → Steps p.tables e below (s₁.setTop (entryFrame m #[(.int p0)] 1)) t := by
    intro t k
    refine pre0 t ?_
    show Steps p.tables e below (s₁.setTop (mkF m 0 #[.val (.int p0)] [])) _
    refine XS.iconst X0.here hx rfl (hb hby d12_0) ?_
    exact k
  obtain ⟨T56, h56, k56, X56, e56, E56, A56, C56, st56⟩ := newPE X0 hx hZ (hw _ (List.mem_of_getElem? (i := 23) rfl)) e0 (g := (mkF m 1 #[.val (.int p0)] [(.int (1 : Int32))])) rfl (hb hby d12_1) rfl (by decide) (cap := 1) (by decide) (by decide) (by decide) (by decide) (ad := "[B") rfl
  obtain ⟨b56, g56⟩ : ∃ z, z = h0.size := ⟨_, rfl⟩
  rw [← g56] at A56 C56 st56
  have g_b56 : n0 ≤ b56 := Nat.le_trans Z0 (Nat.le_of_eq g56.symm)
  have sz_b56 : h0.size ≤ b56 := Nat.le_trans (Keep.refl h0 []).1 (Nat.le_of_eq g56.symm)
  have Z56 : n0 ≤ h56.size := Nat.le_trans Z0 E56.1
  have K56 : Keep h0 h56 [] := (Keep.refl h0 []).ext E56
  have V_b56 : Arv Z h56 b56 k56 .byte (1 : Int32) [(.int (0 : Int32))] (.int (0 : Int32)) := (Arv.new A56 (by decide)).pad (pad_rep [] (.int (0 : Int32)) 1)
  have pre57 : ∀ t, Steps p.tables e below (T56.setTop (mkF m 3 #[.val (.int p0)] [(.ref b56)])) t → Steps p.tables e below (s₁.setTop (entryFrame m #[(.int p0)] 1)) t := fun t k => pre55 t (st56 t k)
  have pre58 : ∀ t, Steps p.tables e below (T56.setTop (mkF m 7 #[.val (.int p0)] [(.int (p0.toInt8.toInt32)), (.int (0 : Int32)), (.ref b56), (.ref b56)])) t → Steps p.tables e below (s₁.setTop (entryFrame m #[(.int p0)] 1)) t := by
    intro t k
    refine pre57 t ?_
    show Steps p.tables e below (T56.setTop (mkF m 3 #[.val (.int p0)] [(.ref b56)])) _
    refine XS.dup X56.here hx rfl (hb hby d12_3) rfl rfl ?_
    refine XS.iconst X56.here hx rfl (hb hby d12_4) ?_
    refine XS.iloadN X56.here hx rfl (hb hby d12_5) rfl ?_
    refine XS.i2b X56.here hx rfl (hb hby d12_6) rfl ?_
    exact k
  obtain ⟨cl59, Ar59, q59, S59, M59, H59, G59⟩ := id V_b56
  have hin59 : ¬ ((0 : Int32) < 0 ∨ cl59.slots.size ≤ ((0 : Int32)).toNatClampNeg) := inb_of S59 ⟨by decide, by decide⟩
  obtain ⟨T59, h59, X59, e59, W59, st59⟩ := stB X56 hx hZ e56 Ar59 (j := (0 : Int32)) hin59 (g := (mkF m 7 #[.val (.int p0)] [(.int (p0.toInt8.toInt32)), (.int (0 : Int32)), (.ref b56), (.ref b56)])) rfl rfl (hb hby d12_7)
  have Z59 : n0 ≤ h59.size := Nat.le_trans Z56 (Keep.of_wr W59).1
  have K59 : Keep h0 h59 [] := K56.wr W59 (Or.inr sz_b56)
  have N59 := Fr.snoc X59 N0 g_b56
  have Ef60 : Exa Z h59 b56 "[B" := (C56).wr W59
  have V59 : Arv Z h59 b56 k56 .byte (1 : Int32) [(.int ((p0.toInt8.toInt32).toInt8.toInt32))] (.int (0 : Int32)) := Arv.set Ar59 q59 S59 M59 H59 G59 (fits_nar_byte _) W59 0 rfl (Nat.le_of_ble_eq_true rfl)
  have pre61 : ∀ t, Steps p.tables e below (T59.setTop (mkF m 8 #[.val (.int p0)] [(.ref b56)])) t → Steps p.tables e below (s₁.setTop (entryFrame m #[(.int p0)] 1)) t := fun t k => pre58 t (st59 t k)
  obtain ⟨fs, hr, hrun, hended, hW, hsame⟩ := X59.leave (v := some (.ref b56)) (fun h => by rw [Bd.returns] at h; cases h)
  refine ⟨_, _, pre61 _ ?_, hrun, hended, _, _, rfl, ?_, ⟨_, rfl⟩, hW, hsame.mono (by decide) (by decide)⟩
  · show Steps p.tables e below (T59.setTop (mkF m 8 #[.val (.int p0)] [(.ref b56)])) _
    exact retOut X59 hx Bd.returns rfl (Or.inr (Or.inr (Or.inr (Or.inr ⟨rfl, rfl, rfl⟩)))) (hb hby d12_8) hr
  · show Q12 Z p0 h0 n0 _ T59.heap _
    rw [e59]
    exact ⟨b56, k56, rfl, N59, K59, sz_b56, Ef60, V59⟩
theorem d13_0 : decode jdk_42_method_151_code 0 = .ok (.aload_n 0, 1) := by decide +kernel
theorem d13_1 : decode jdk_42_method_151_code 1 = .ok (.invokespecial 1, 3) := by decide +kernel
theorem d13_4 : decode jdk_42_method_151_code 4 = .ok (.aload_n 0, 1) := by decide +kernel
theorem d13_5 : decode jdk_42_method_151_code 5 = .ok (.aload_n 1, 1) := by decide +kernel
theorem d13_6 : decode jdk_42_method_151_code 6 = .ok (.putfield 9, 3) := by decide +kernel
theorem d13_9 : decode jdk_42_method_151_code 9 = .ok (.aload_n 0, 1) := by decide +kernel
theorem d13_10 : decode jdk_42_method_151_code 10 = .ok (.iload_n 2, 1) := by decide +kernel
theorem d13_11 : decode jdk_42_method_151_code 11 = .ok (.putfield 15, 3) := by decide +kernel
theorem d13_14 : decode jdk_42_method_151_code 14 = .ok (.return_, 1) := by decide +kernel
theorem ef_13_b (m : MethodId) (x0 : Addr) (x1 : Addr) (x2 : Int32) : entryFrame m #[(.ref x0), (.ref x1), (.int x2)] 3 = mkF m 0 #[.val (.ref x0), .val (.ref x1), .val (.int x2)] [] := by first | (simp [entryFrame, mkF, argsToLocals, Value.category]; done) | rfl
def Q13_b (Z : State) (a0 : Addr) (a1 : Addr) (h0 : Heap) (n0 : Nat) (v : Option Value) (h : Heap) (L : List Loc) : Prop := v = none ∧ Fr n0 L ∧ Keep h0 h [a0] ∧ Exa Z h a0 "java/lang/String" ∧ Fld Z h a0 "java/lang/String" "value" "[B" (.ref a1) ∧ Fld Z h a0 "java/lang/String" "coder" "B" (.int (0 : Int32))
set_option maxRecDepth 65536 in
set_option maxHeartbeats 40000000 in
theorem rm13_b (l : Launch) (Z : State) (ar0 : Array Value) (hw : ∀ d ∈ tables_1, d.before ar0 Z = true) (ws : List Jvm.Cond) (a0 : Addr) (a1 : Addr) (h0 : Heap) (n0 : Nat) (Z0 : n0 ≤ h0.size) (E_a0 : Exa Z h0 a0 "java/lang/String") (F_value_a0 : Fld Z h0 a0 "java/lang/String" "value" "[B" .null) (F_coder_a0 : Fld Z h0 a0 "java/lang/String" "coder" "B" (.int (0 : Int32))) (g_a0 : n0 ≤ a0) :
    MetFree l (⟨"java/lang/String", "<init>", "([BB)V"⟩ : MethodName) (head1 (Jvm.Cond.code (⟨"java/lang/String", "<init>", "([BB)V"⟩ : MethodName) jdk_42_method_151_code 3 none :: ws) ({ frames := 1, cells := 0, slots := 0, locals := 12 } : Room)) (fun a U => a = #[(.ref a0), (.ref a1), (.int (0 : Int32))] ∧ Z.Warmed39 U.vm ∧ U.heap = h0) (fun _ _ _ _ _ => True) (fun _ U o U' => ∃ v L, o = .returned v ∧ Q13_b Z a0 a1 h0 n0 v U'.heap L ∧ FrameEnd U o U' L ({ frames := 1, cells := 0, slots := 0, locals := 12 } : Room).cells ({ frames := 1, cells := 0, slots := 0, locals := 12 } : Room).slots) := by
  refine MetFree.of_bodySF (plainFor_of_name pn_0) hisR ?_
  intro p e s m args below meth c s₁ Bd hml0 hP hK
  obtain ⟨rfl, hZ, hh⟩ := hP
  have hx := Bd.exec
  have hby := Bd.bytes
  have hml : c.maxLocals = 3 := hml0
  have hown : s.vm.findClass "java/lang/String" = some m.cls := by have q := findClass_of_methodNamed Bd.named; exact q
  have hnm := (name_of_methodNamed Bd.named Bd.method).1
  have X0 : Stand p l e ({ frames := 1, cells := 0, slots := 0, locals := 12 } : Room) s m #[(.ref a0), (.ref a1), (.int (0 : Int32))] below meth c s₁ [] 0 0 := Stand.of_body Bd
  have e0 : s₁.heap = h0 := by rw [← hh, Bd.state]; rfl
  have N0 := Fr.nil n0
  have pre0 : ∀ t, Steps p.tables e below (s₁.setTop (mkF m 0 #[.val (.ref a0), .val (.ref a1), .val (.int (0 : Int32))] [])) t → Steps p.tables e below (s₁.setTop (entryFrame m #[(.ref a0), (.ref a1), (.int (0 : Int32))] 3)) t := fun t k => castTop (ef_13_b m a0 a1 (0 : Int32)) k
  have pre62 : ∀ t, Steps p.tables e below (s₁.setTop (mkF m 1 #[.val (.ref a0), .val (.ref a1), .val (.int (0 : Int32))] [(.ref a0)])) t → Steps p.tables e below (s₁.setTop (entryFrame m #[(.ref a0), (.ref a1), (.int (0 : Int32))] 3)) t := by
    intro t k
    refine pre0 t ?_
    show Steps p.tables e below (s₁.setTop (mkF m 0 #[.val (.ref a0), .val (.ref a1), .val (.int (0 : Int32))] [])) _
    refine XS.aloadN X0.here hx rfl (hb hby d13_0) rfl rfl ?_
    exact k
  obtain ⟨T63, X63, e63, st63⟩ := initO X0 hx hZ hown (hw _ (List.mem_of_getElem? (i := 19) rfl)) (hw _ (List.mem_of_getElem? (i := 20) rfl)) (hw _ (List.mem_of_getElem? (i := 21) rfl)) e0 (g := (mkF m 1 #[.val (.ref a0), .val (.ref a1), .val (.int (0 : Int32))] [(.ref a0)])) rfl (by rw [hml]; rfl) rfl (hb hby d13_1) (by decide) (W := 0) (by show 2 * 0 + _ ≤ _; exact Nat.le_of_eq rfl) (by decide)
  have pre64 : ∀ t, Steps p.tables e below (T63.setTop (mkF m 4 #[.val (.ref a0), .val (.ref a1), .val (.int (0 : Int32))] [])) t → Steps p.tables e below (s₁.setTop (entryFrame m #[(.ref a0), (.ref a1), (.int (0 : Int32))] 3)) t := fun t k => pre62 t (st63 t k)
  have pre65 : ∀ t, Steps p.tables e below (T63.setTop (mkF m 6 #[.val (.ref a0), .val (.ref a1), .val (.int (0 : Int32))] [(.ref a1), (.ref a0)])) t → Steps p.tables e below (s₁.setTop (entryFrame m #[(.ref a0), (.ref a1), (.int (0 : Int32))] 3)) t := by
    intro t k
    refine pre64 t ?_
    show Steps p.tables e below (T63.setTop (mkF m 4 #[.val (.ref a0), .val (.ref a1), .val (.int (0 : Int32))] [])) _
    refine XS.aloadN X63.here hx rfl (hb hby d13_4) rfl rfl ?_
    refine XS.aloadN X63.here hx rfl (hb hby d13_5) rfl rfl ?_
    exact k
  obtain ⟨T66, h66, X66, e66, W66, st66⟩ := putF X63 hx hZ hown (host := "") (Or.inl (hw _ (List.mem_of_getElem? (i := 28) rfl))) Via.refl e63 F_value_a0 E_a0 (Or.inr ⟨(hw _ (List.mem_of_getElem? (i := 24) rfl)), rfl, hnm⟩) (hw _ (List.mem_of_getElem? (i := 9) rfl)) (ty := (.array .byte)) (by decide) rfl rfl (g := (mkF m 6 #[.val (.ref a0), .val (.ref a1), .val (.int (0 : Int32))] [(.ref a1), (.ref a0)])) rfl rfl (hb hby d13_6)
  have Z66 : n0 ≤ h66.size := Nat.le_trans Z0 (Keep.of_wr W66).1
  have K66 : Keep h0 h66 [a0] := (Keep.refl h0 [a0]).wr W66 (Or.inl (List.mem_of_getElem? (i := 0) rfl))
  have N66 := Fr.snoc X66 N0 g_a0
  have Ef67 : Exa Z h66 a0 "java/lang/String" := (E_a0).wr W66
  have Ff68 : Fld Z h66 a0 "java/lang/String" "coder" "B" (.int (0 : Int32)) := (F_coder_a0).other W66 (Or.inr (slot_ne (Or.inr (hw _ (List.mem_of_getElem? (i := 25) rfl))) (Or.inr (hw _ (List.mem_of_getElem? (i := 24) rfl))) (by decide) (t := .byte) (t' := (.array .byte)) (by decide) (by decide)))
  have Fw66 : Fld Z h66 a0 "java/lang/String" "value" "[B" (.ref a1) := (F_value_a0).same W66
  have pre69 : ∀ t, Steps p.tables e below (T66.setTop (mkF m 9 #[.val (.ref a0), .val (.ref a1), .val (.int (0 : Int32))] [])) t → Steps p.tables e below (s₁.setTop (entryFrame m #[(.ref a0), (.ref a1), (.int (0 : Int32))] 3)) t := fun t k => pre65 t (st66 t k)
  have pre70 : ∀ t, Steps p.tables e below (T66.setTop (mkF m 11 #[.val (.ref a0), .val (.ref a1), .val (.int (0 : Int32))] [(.int (0 : Int32)), (.ref a0)])) t → Steps p.tables e below (s₁.setTop (entryFrame m #[(.ref a0), (.ref a1), (.int (0 : Int32))] 3)) t := by
    intro t k
    refine pre69 t ?_
    show Steps p.tables e below (T66.setTop (mkF m 9 #[.val (.ref a0), .val (.ref a1), .val (.int (0 : Int32))] [])) _
    refine XS.aloadN X66.here hx rfl (hb hby d13_9) rfl rfl ?_
    refine XS.iloadN X66.here hx rfl (hb hby d13_10) rfl ?_
    exact k
  obtain ⟨T71, h71, X71, e71, W71, st71⟩ := putFN X66 hx hZ hown (hw _ (List.mem_of_getElem? (i := 29) rfl)) Via.refl e66 Ff68 Ef67 (Or.inr ⟨(hw _ (List.mem_of_getElem? (i := 25) rfl)), rfl, hnm⟩) (hw _ (List.mem_of_getElem? (i := 9) rfl)) (ty := .byte) (v' := (.int (0 : Int32))) (by decide) rfl rfl (g := (mkF m 11 #[.val (.ref a0), .val (.ref a1), .val (.int (0 : Int32))] [(.int (0 : Int32)), (.ref a0)])) rfl rfl (hb hby d13_11)
  have Z71 : n0 ≤ h71.size := Nat.le_trans Z66 (Keep.of_wr W71).1
  have K71 : Keep h0 h71 [a0] := K66.wr W71 (Or.inl (List.mem_of_getElem? (i := 0) rfl))
  have N71 := Fr.snoc X71 N66 g_a0
  have Ef72 : Exa Z h71 a0 "java/lang/String" := (Ef67).wr W71
  have Ff73 : Fld Z h71 a0 "java/lang/String" "value" "[B" (.ref a1) := (Fw66).other W71 (Or.inr (slot_ne (Or.inr (hw _ (List.mem_of_getElem? (i := 24) rfl))) (Or.inr (hw _ (List.mem_of_getElem? (i := 25) rfl))) (by decide) (t := (.array .byte)) (t' := .byte) (by decide) (by decide)))
  have Fw71 : Fld Z h71 a0 "java/lang/String" "coder" "B" (.int (0 : Int32)) := (Ff68).same W71
  have pre74 : ∀ t, Steps p.tables e below (T71.setTop (mkF m 14 #[.val (.ref a0), .val (.ref a1), .val (.int (0 : Int32))] [])) t → Steps p.tables e below (s₁.setTop (entryFrame m #[(.ref a0), (.ref a1), (.int (0 : Int32))] 3)) t := fun t k => pre70 t (st71 t k)
  obtain ⟨fs, hr, hrun, hended, hW, hsame⟩ := X71.leave (v := none) (fun _ => rfl)
  refine ⟨_, _, pre74 _ ?_, hrun, hended, _, _, rfl, ?_, ⟨_, rfl⟩, hW, hsame.mono (by decide) (by decide)⟩
  · show Steps p.tables e below (T71.setTop (mkF m 14 #[.val (.ref a0), .val (.ref a1), .val (.int (0 : Int32))] [])) _
    exact X71.returnOut hx Bd.returns (hb hby d13_14) hr
  · show Q13_b Z a0 a1 h0 n0 _ T71.heap _
    rw [e71]
    exact ⟨rfl, N71, K71, Ef72, Ff73, Fw71⟩
theorem pd_1 : parseMethodDescriptor "(C)Z" = some ⟨[.char], some .boolean⟩ := by decide +kernel
theorem pd_2 : parseMethodDescriptor "(C)[B" = some ⟨[.char], some (.array .byte)⟩ := by decide +kernel
theorem pd_3 : parseMethodDescriptor "([BB)V" = some ⟨[(.array .byte), .byte], none⟩ := by decide +kernel
theorem d10_0 : decode jdk_42_method_139_code 0 = .ok (.getstatic 38, 3) := by decide +kernel
theorem d10_3 : decode jdk_42_method_139_code 3 = .ok (.ifCond .eq 23, 3) := by decide +kernel
theorem d10_6 : decode jdk_42_method_139_code 6 = .ok (.iload_n 0, 1) := by decide +kernel
theorem d10_7 : decode jdk_42_method_139_code 7 = .ok (.invokestatic 1015, 3) := by decide +kernel
theorem d10_10 : decode jdk_42_method_139_code 10 = .ok (.ifCond .eq 16, 3) := by decide +kernel
theorem d10_13 : decode jdk_42_method_139_code 13 = .ok (.new 10, 3) := by decide +kernel
theorem d10_16 : decode jdk_42_method_139_code 16 = .ok (.dup, 1) := by decide +kernel
theorem d10_17 : decode jdk_42_method_139_code 17 = .ok (.iload_n 0, 1) := by decide +kernel
theorem d10_18 : decode jdk_42_method_139_code 18 = .ok (.invokestatic 1018, 3) := by decide +kernel
theorem d10_21 : decode jdk_42_method_139_code 21 = .ok (.iconst 0, 1) := by decide +kernel
theorem d10_22 : decode jdk_42_method_139_code 22 = .ok (.invokespecial 209, 3) := by decide +kernel
theorem d10_25 : decode jdk_42_method_139_code 25 = .ok (.areturn, 1) := by decide +kernel
theorem ef_10 (m : MethodId) (x0 : Int32) : entryFrame m #[(.int x0)] 1 = mkF m 0 #[.val (.int x0)] [] := by first | (simp [entryFrame, mkF, argsToLocals, Value.category]; done) | rfl
def Q10 (Z : State) (p0 : Int32) (gc1 : Int32) (h0 : Heap) (n0 : Nat) (v : Option Value) (h : Heap) (L : List Loc) : Prop := ∃ (o : Addr) (t : Addr) (k_t : ClassId), v = some (.ref o) ∧ Fr n0 L ∧ Keep h0 h [] ∧ h0.size ≤ o ∧ Exa Z h o "java/lang/String" ∧ Fld Z h o "java/lang/String" "value" "[B" (.ref t) ∧ Fld Z h o "java/lang/String" "coder" "B" (.int (0 : Int32)) ∧ h0.size ≤ t ∧ Exa Z h t "[B" ∧ Arv Z h t k_t .byte (1 : Int32) ((([p0] : List Int32).map (fun c => c.toInt8.toInt32)).map Value.int) (.int (0 : Int32))
set_option maxRecDepth 65536 in
set_option maxHeartbeats 40000000 in
theorem rm10 (l : Launch) (Z : State) (ar0 : Array Value) (hw : ∀ d ∈ tables_1, d.before ar0 Z = true) (ws : List Jvm.Cond) (p0 : Int32) (gc1 : Int32) (h0 : Heap) (n0 : Nat) (Z0 : n0 ≤ h0.size) (P5 : ¬ (gc1 = (0 : Int32))) (hq : own_R p0) (S_COMPACT_STRINGS : Sta Z h0 "java/lang/String" "COMPACT_STRINGS" "Z" (.int gc1)) :
    MetFree l (⟨"java/lang/String", "valueOf", "(C)Ljava/lang/String;"⟩ : MethodName) (head1 (Jvm.Cond.code (⟨"java/lang/String", "valueOf", "(C)Ljava/lang/String;"⟩ : MethodName) jdk_42_method_139_code 1 (some (.object "java/lang/String")) :: ws) ({ frames := 2, cells := 2, slots := 5, locals := 27 } : Room)) (fun a U => a = #[(.int p0)] ∧ Z.Warmed39 U.vm ∧ U.heap = h0) (fun _ _ _ _ _ => True) (fun _ U o U' => ∃ v L, o = .returned v ∧ Q10 Z p0 gc1 h0 n0 v U'.heap L ∧ FrameEnd U o U' L ({ frames := 2, cells := 2, slots := 5, locals := 27 } : Room).cells ({ frames := 2, cells := 2, slots := 5, locals := 27 } : Room).slots) := by
  refine MetFree.of_bodySF (plainFor_of_name pn_0) hisR ?_
  intro p e s m args below meth c s₁ Bd hml0 hP hK
  obtain ⟨rfl, hZ, hh⟩ := hP
  have hx := Bd.exec
  have hby := Bd.bytes
  have hml : c.maxLocals = 1 := hml0
  have hown : s.vm.findClass "java/lang/String" = some m.cls := by have q := findClass_of_methodNamed Bd.named; exact q
  have hnm := (name_of_methodNamed Bd.named Bd.method).1
  have X0 : Stand p l e ({ frames := 2, cells := 2, slots := 5, locals := 27 } : Room) s m #[(.int p0)] below meth c s₁ [] 0 0 := Stand.of_body Bd
  have e0 : s₁.heap = h0 := by rw [← hh, Bd.state]; rfl
  have N0 := Fr.nil n0
  have pre0 : ∀ t, Steps p.tables e below (s₁.setTop (mkF m 0 #[.val (.int p0)] [])) t → Steps p.tables e below (s₁.setTop (entryFrame m #[(.int p0)] 1)) t := fun t k => castTop (ef_10 m p0) k
  obtain ⟨T75, X75, e75, st75⟩ := getS2 X0 hx hZ hown (host := "") (Or.inl (hw _ (List.mem_of_getElem? (i := 64) rfl))) Via.refl e0 S_COMPACT_STRINGS (g := (mkF m 0 #[.val (.int p0)] [])) rfl (hb hby d10_0)
  have pre76 : ∀ t, Steps p.tables e below (T75.setTop (mkF m 3 #[.val (.int p0)] [(.int gc1)])) t → Steps p.tables e below (s₁.setTop (entryFrame m #[(.int p0)] 1)) t := fun t k => pre0 t (st75 t k)
  have hk77 : ¬ (gc1 = (0 : Int32)) := P5
  have pre78 : ∀ t, Steps p.tables e below (T75.setTop (mkF m 7 #[.val (.int p0)] [(.int p0)])) t → Steps p.tables e below (s₁.setTop (entryFrame m #[(.int p0)] 1)) t := by
    intro t k
    refine pre76 t ?_
    show Steps p.tables e below (T75.setTop (mkF m 3 #[.val (.int p0)] [(.int gc1)])) _
    refine XS.ifNo X75.here hx rfl (hb hby d10_3) rfl ((if0 _ _).trans (feq hk77).1) ?_
    refine XS.iloadN X75.here hx rfl (hb hby d10_6) rfl ?_
    exact k
  obtain ⟨_, _, ⟨T79, L79, k79, n79⟩, -, X79, ⟨Lc79, hQ79, l79, y79, z79⟩, st79⟩ := Jvm.LawKit.callS X75 hx (y := (⟨"java/lang/StringLatin1", "canEncode", "(C)Z"⟩ : MethodName)) hown (mvT hZ (hw _ (List.mem_of_getElem? (i := 65) rfl))) (mvT hZ (hw _ (List.mem_of_getElem? (i := 66) rfl))) (mvT hZ (hw _ (List.mem_of_getElem? (i := 67) rfl))) (mvT hZ (hw _ (List.mem_of_getElem? (i := 68) rfl))) (by decide) (backOf (W := 0) (rm11 l Z ar0 hw [] p0 h0 n0 Z0) hZ (hw _ (List.mem_of_getElem? (i := 68) rfl)) (hw _ (List.mem_of_getElem? (i := 67) rfl)) (by decide) (by decide)) (g := (mkF m 7 #[.val (.int p0)] [(.int p0)])) rfl (by rw [hml]; rfl) (argsL := [(.int p0)]) (rest := []) (lenOf pd_1 rfl) rfl (by show 2 * 0 + _ ≤ _; exact Nat.le_of_eq rfl) (hb hby d10_7) (fun _ _ => ⟨rfl, e75, (by decide : 0 + 0 ≤ _), (by decide : 0 + 0 ≤ _)⟩)
  dsimp only [Pt.U, Pt.locs, Pt.cells, Pt.slots] at X79 l79 y79 z79 st79 hQ79
  subst l79 y79 z79
  obtain ⟨rfl, N79q, e79⟩ := hQ79
  have N79 := Fr.app N0 N79q
  have pre80 : ∀ t, Steps p.tables e below (T79.setTop (mkF m 10 #[.val (.int p0)] [(.int (f11 p0))])) t → Steps p.tables e below (s₁.setTop (entryFrame m #[(.int p0)] 1)) t := fun t k => pre78 t (st79 t k)
  have hk81 : ¬ ((f11 p0) = (0 : Int32)) := (by unfold f11; rw [if_neg hq.2]; decide)
  have pre82 : ∀ t, Steps p.tables e below (T79.setTop (mkF m 13 #[.val (.int p0)] [])) t → Steps p.tables e below (s₁.setTop (entryFrame m #[(.int p0)] 1)) t := by
    intro t k
    refine pre80 t ?_
    show Steps p.tables e below (T79.setTop (mkF m 10 #[.val (.int p0)] [(.int (f11 p0))])) _
    refine XS.ifNo X79.here hx rfl (hb hby d10_10) rfl ((if0 _ _).trans (feq hk81).1) ?_
    exact k
  obtain ⟨T83, h83, X83, e83, E83, A83, D83, -, st83⟩ := newO X79 hx hZ hown (hw _ (List.mem_of_getElem? (i := 69) rfl)) (hw _ (List.mem_of_getElem? (i := 9) rfl)) (hw _ (List.mem_of_getElem? (i := 10) rfl)) e79 (g := (mkF m 13 #[.val (.int p0)] [])) rfl (hb hby d10_13) (by decide) (by decide)
  obtain ⟨b83, g83⟩ : ∃ z, z = h0.size := ⟨_, rfl⟩
  rw [← g83] at A83 D83 st83
  have g_b83 : n0 ≤ b83 := Nat.le_trans Z0 (Nat.le_of_eq g83.symm)
  have sz_b83 : h0.size ≤ b83 := Nat.le_trans (Keep.refl h0 []).1 (Nat.le_of_eq g83.symm)
  have Z83 : n0 ≤ h83.size := Nat.le_trans Z0 E83.1
  have K83 : Keep h0 h83 [] := (Keep.refl h0 []).ext E83
  have Sf84 : Sta Z h83 "java/lang/String" "COMPACT_STRINGS" "Z" (.int gc1) := (S_COMPACT_STRINGS).ext E83
  have Fvalue_b83 : Fld Z h83 b83 "java/lang/String" "value" "[B" .null := D83 (Or.inr (hw _ (List.mem_of_getElem? (i := 24) rfl))) (ty := (.array .byte)) (by decide)
  have Fcoder_b83 : Fld Z h83 b83 "java/lang/String" "coder" "B" (.int (0 : Int32)) := D83 (Or.inr (hw _ (List.mem_of_getElem? (i := 25) rfl))) (ty := .byte) (by decide)
  have pre85 : ∀ t, Steps p.tables e below (T83.setTop (mkF m 16 #[.val (.int p0)] [(.ref b83)])) t → Steps p.tables e below (s₁.setTop (entryFrame m #[(.int p0)] 1)) t := fun t k => pre82 t (st83 t k)
  have pre86 : ∀ t, Steps p.tables e below (T83.setTop (mkF m 18 #[.val (.int p0)] [(.int p0), (.ref b83), (.ref b83)])) t → Steps p.tables e below (s₁.setTop (entryFrame m #[(.int p0)] 1)) t := by
    intro t k
    refine pre85 t ?_
    show Steps p.tables e below (T83.setTop (mkF m 16 #[.val (.int p0)] [(.ref b83)])) _
    refine XS.dup X83.here hx rfl (hb hby d10_16) rfl rfl ?_
    refine XS.iloadN X83.here hx rfl (hb hby d10_17) rfl ?_
    exact k
  obtain ⟨_, _, ⟨T87, L87, k87, n87⟩, -, X87, ⟨Lc87, hQ87, l87, y87, z87⟩, st87⟩ := Jvm.LawKit.callS X83 hx (y := (⟨"java/lang/StringLatin1", "toBytes", "(C)[B"⟩ : MethodName)) hown (mvT hZ (hw _ (List.mem_of_getElem? (i := 70) rfl))) (mvT hZ (hw _ (List.mem_of_getElem? (i := 71) rfl))) (mvT hZ (hw _ (List.mem_of_getElem? (i := 67) rfl))) (mvT hZ (hw _ (List.mem_of_getElem? (i := 72) rfl))) (by decide) (backOf (W := 2) (rm12 l Z ar0 hw [] p0 h83 n0 Z83) hZ (hw _ (List.mem_of_getElem? (i := 72) rfl)) (hw _ (List.mem_of_getElem? (i := 67) rfl)) (by decide) (by decide)) (g := (mkF m 18 #[.val (.int p0)] [(.int p0), (.ref b83), (.ref b83)])) rfl (by rw [hml]; rfl) (argsL := [(.int p0)]) (rest := [(.ref b83), (.ref b83)]) (lenOf pd_2 rfl) rfl (by show 2 * 0 + _ ≤ _; exact Nat.le_of_eq rfl) (hb hby d10_18) (fun _ _ => ⟨rfl, e83, (by decide : 1 + 1 ≤ _), (by decide : 4 + 1 ≤ _)⟩)
  dsimp only [Pt.U, Pt.locs, Pt.cells, Pt.slots] at X87 l87 y87 z87 st87 hQ87
  subst l87 y87 z87
  obtain ⟨h87, e87⟩ : ∃ h, T87.heap = h := ⟨_, rfl⟩
  rw [e87] at hQ87
  obtain ⟨b87, kb87, rfl, N87q, K87q, y_b87, Ob87_0, Ob87_1⟩ := hQ87
  have N87 := Fr.app N79 N87q
  have ne_b83_b87 : b83 ≠ b87 := Nat.ne_of_lt (Nat.lt_of_lt_of_le (A83).lt y_b87)
  have g_b87 : n0 ≤ b87 := Nat.le_trans Z83 y_b87
  have sz_b87 : h0.size ≤ b87 := Nat.le_trans K83.1 y_b87
  have Z87 : n0 ≤ h87.size := Nat.le_trans Z83 K87q.1
  have K87 : Keep h0 h87 [] := K83.trans K87q (fun x hx => absurd hx List.not_mem_nil)
  have Sf88 : Sta Z h87 "java/lang/String" "COMPACT_STRINGS" "Z" (.int gc1) := own_sta_keep0 Sf84 K87q
  have Ef89 : Exa Z h87 b83 "java/lang/String" := (A83).keep K87q
  have Ff90 : Fld Z h87 b83 "java/lang/String" "value" "[B" .null := (Fvalue_b83).keep K87q List.not_mem_nil
  have Ff91 : Fld Z h87 b83 "java/lang/String" "coder" "B" (.int (0 : Int32)) := (Fcoder_b83).keep K87q List.not_mem_nil
  have pre92 : ∀ t, Steps p.tables e below (T87.setTop (mkF m 21 #[.val (.int p0)] [(.ref b87), (.ref b83), (.ref b83)])) t → Steps p.tables e below (s₁.setTop (entryFrame m #[(.int p0)] 1)) t := fun t k => pre86 t (st87 t k)
  have pre93 : ∀ t, Steps p.tables e below (T87.setTop (mkF m 22 #[.val (.int p0)] [(.int (0 : Int32)), (.ref b87), (.ref b83), (.ref b83)])) t → Steps p.tables e below (s₁.setTop (entryFrame m #[(.int p0)] 1)) t := by
    intro t k
    refine pre92 t ?_
    show Steps p.tables e below (T87.setTop (mkF m 21 #[.val (.int p0)] [(.ref b87), (.ref b83), (.ref b83)])) _
    refine XS.iconst X87.here hx rfl (hb hby d10_21) ?_
    exact k
  obtain ⟨_, _, ⟨T94, L94, k94, n94⟩, -, X94, ⟨Lc94, hQ94, l94, y94, z94⟩, st94⟩ := X87.specialBack hx (y := (⟨"java/lang/String", "<init>", "([BB)V"⟩ : MethodName)) rfl hown (mvT hZ (hw _ (List.mem_of_getElem? (i := 73) rfl))) (mvT hZ (hw _ (List.mem_of_getElem? (i := 74) rfl))) (mvT hZ (hw _ (List.mem_of_getElem? (i := 75) rfl))) (by decide) (backOf (W := 1) (rm13_b l Z ar0 hw [] b83 b87 h87 n0 Z87 Ef89 Ff90 Ff91 g_b83) hZ (hw _ (List.mem_of_getElem? (i := 75) rfl)) (hw _ (List.mem_of_getElem? (i := 10) rfl)) (by decide) (by decide)) (g := (mkF m 22 #[.val (.int p0)] [(.int (0 : Int32)), (.ref b87), (.ref b83), (.ref b83)])) rfl (by rw [hml]; rfl) (Steps.refl _) (a := b83) (argsL := [(.ref b87), (.int (0 : Int32))]) (rest := [(.ref b83)]) (lenOf pd_3 rfl) rfl (by show 2 * 0 + _ ≤ _; exact Nat.le_of_eq rfl) (hb hby d10_22) (fun _ _ => ⟨rfl, e87, (by decide : 2 + 0 ≤ _), (by decide : 5 + 0 ≤ _)⟩)
  dsimp only [Pt.U, Pt.locs, Pt.cells, Pt.slots] at X94 l94 y94 z94 st94 hQ94
  subst l94 y94 z94
  obtain ⟨h94, e94⟩ : ∃ h, T94.heap = h := ⟨_, rfl⟩
  rw [e94] at hQ94
  obtain ⟨rfl, N94q, K94q, Q94_0, Q94_1, Q94_2⟩ := hQ94
  have N94 := Fr.app N87 N94q
  have Z94 : n0 ≤ h94.size := Nat.le_trans Z87 K94q.1
  have K94 : Keep h0 h94 [] := K87.trans K94q (fun x hx => by cases List.mem_singleton.mp hx; exact Or.inr sz_b83)
  have Sf95 : Sta Z h94 "java/lang/String" "COMPACT_STRINGS" "Z" (.int gc1) := own_sta_keep Sf88 K94q (own_ns1 (own_ns_exa Ef89))
  have Ef96 : Exa Z h94 b83 "java/lang/String" := (Ef89).keep K94q
  have Ef97 : Exa Z h94 b87 "[B" := (Ob87_0).keep K94q
  have Vf98 : Arv Z h94 b87 kb87 .byte (1 : Int32) [(.int ((p0.toInt8.toInt32).toInt8.toInt32))] (.int (0 : Int32)) := (Ob87_1).keep K94q (fun q => absurd (List.mem_singleton.mp q) ne_b83_b87.symm)
  have pre99 : ∀ t, Steps p.tables e below (T94.setTop (mkF m 25 #[.val (.int p0)] [(.ref b83)])) t → Steps p.tables e below (s₁.setTop (entryFrame m #[(.int p0)] 1)) t := fun t k => pre93 t (st94.trans k)
  have Bv100 : Arv Z h94 b87 kb87 .byte (1 : Int32) ((([p0] : List Int32).map (fun c => c.toInt8.toInt32)).map Value.int) (.int (0 : Int32)) := by have q := Vf98; rw [own_i8] at q; exact q
  obtain ⟨fs, hr, hrun, hended, hW, hsame⟩ := X94.leave (v := some (.ref b83)) (fun h => by rw [Bd.returns] at h; cases h)
  refine ⟨_, _, pre99 _ ?_, hrun, hended, _, _, rfl, ?_, ⟨_, rfl⟩, hW, hsame.mono (by decide) (by decide)⟩
  · show Steps p.tables e below (T94.setTop (mkF m 25 #[.val (.int p0)] [(.ref b83)])) _
    exact retOut X94 hx Bd.returns rfl (Or.inr (Or.inr (Or.inr (Or.inr ⟨rfl, rfl, rfl⟩)))) (hb hby d10_25) hr
  · show Q10 Z p0 gc1 h0 n0 _ T94.heap _
    rw [e94]
    exact ⟨b83, b87, kb87, rfl, N94, K94, sz_b83, Q94_0, Q94_1, Q94_2, sz_b87, Ef97, Bv100⟩
theorem pd_4 : parseMethodDescriptor "([C)V" = some ⟨[(.array .char)], none⟩ := by decide +kernel
theorem pd_5 : parseMethodDescriptor "(C)Ljava/lang/String;" = some ⟨[.char], some (.object "java/lang/String")⟩ := by decide +kernel
theorem pn_2 : plainName "com/example/oversee/oversee/model/VariableEqualsPinLaw" = true := by first | (simp [plainName, overriddenIn]; done) | decide +kernel
theorem d2_0 : decode method_2_code 0 = .ok (.iload_n 0, 1) := by decide +kernel
theorem d2_1 : decode method_2_code 1 = .ok (.ifCond .ne 14, 3) := by decide +kernel
theorem d2_4 : decode method_2_code 4 = .ok (.new 7, 3) := by decide +kernel
theorem d2_7 : decode method_2_code 7 = .ok (.dup, 1) := by decide +kernel
theorem d2_8 : decode method_2_code 8 = .ok (.iconst 0, 1) := by decide +kernel
theorem d2_9 : decode method_2_code 9 = .ok (.newarray .char, 2) := by decide +kernel
theorem d2_11 : decode method_2_code 11 = .ok (.invokespecial 9, 3) := by decide +kernel
theorem d2_14 : decode method_2_code 14 = .ok (.areturn, 1) := by decide +kernel
theorem d2_15 : decode method_2_code 15 = .ok (.iload_n 0, 1) := by decide +kernel
theorem d2_16 : decode method_2_code 16 = .ok (.iconst 1, 1) := by decide +kernel
theorem d2_17 : decode method_2_code 17 = .ok (.if_icmp .ne 8, 3) := by decide +kernel
theorem d2_20 : decode method_2_code 20 = .ok (.iload_n 1, 1) := by decide +kernel
theorem d2_21 : decode method_2_code 21 = .ok (.invokestatic 12, 3) := by decide +kernel
theorem d2_24 : decode method_2_code 24 = .ok (.areturn, 1) := by decide +kernel
theorem d2_25 : decode method_2_code 25 = .ok (.new 7, 3) := by decide +kernel
theorem d2_28 : decode method_2_code 28 = .ok (.dup, 1) := by decide +kernel
theorem d2_29 : decode method_2_code 29 = .ok (.iconst 2, 1) := by decide +kernel
theorem d2_30 : decode method_2_code 30 = .ok (.newarray .char, 2) := by decide +kernel
theorem d2_32 : decode method_2_code 32 = .ok (.dup, 1) := by decide +kernel
theorem d2_33 : decode method_2_code 33 = .ok (.iconst 0, 1) := by decide +kernel
theorem d2_34 : decode method_2_code 34 = .ok (.iload_n 1, 1) := by decide +kernel
theorem d2_35 : decode method_2_code 35 = .ok (.castore, 1) := by decide +kernel
theorem d2_36 : decode method_2_code 36 = .ok (.dup, 1) := by decide +kernel
theorem d2_37 : decode method_2_code 37 = .ok (.iconst 1, 1) := by decide +kernel
theorem d2_38 : decode method_2_code 38 = .ok (.iload_n 2, 1) := by decide +kernel
theorem d2_39 : decode method_2_code 39 = .ok (.castore, 1) := by decide +kernel
theorem d2_40 : decode method_2_code 40 = .ok (.invokespecial 9, 3) := by decide +kernel
theorem d2_43 : decode method_2_code 43 = .ok (.areturn, 1) := by decide +kernel
theorem ef_2 (m : MethodId) (x0 : Int32) (x1 : Int32) (x2 : Int32) : entryFrame m #[(.int x0), (.int x1), (.int x2)] 3 = mkF m 0 #[.val (.int x0), .val (.int x1), .val (.int x2)] [] := by first | (simp [entryFrame, mkF, argsToLocals, Value.category]; done) | rfl
def Q2 (Z : State) (p0 : Int32) (p1 : Int32) (p2 : Int32) (gc1 : Int32) (h0 : Heap) (n0 : Nat) (v : Option Value) (h : Heap) (L : List Loc) : Prop := ∃ (o : Addr) (t : Addr) (k_t : ClassId), v = some (.ref o) ∧ Fr n0 L ∧ Keep h0 h [] ∧ h0.size ≤ o ∧ Exa Z h o "java/lang/String" ∧ Fld Z h o "java/lang/String" "value" "[B" (.ref t) ∧ Fld Z h o "java/lang/String" "coder" "B" (.int (0 : Int32)) ∧ Arv Z h t k_t .byte (Int32.ofNat (own_cs p0 p1 p2).length) ((((own_cs p0 p1 p2) : List Int32).map (fun c => c.toInt8.toInt32)).map Value.int) (.int (0 : Int32))
set_option maxRecDepth 65536 in
set_option maxHeartbeats 40000000 in
theorem rm2 (l : Launch) (Z : State) (ar0 : Array Value) (hw : ∀ d ∈ tables_1, d.before ar0 Z = true) (ws : List Jvm.Cond) (p0 : Int32) (p1 : Int32) (p2 : Int32) (gc1 : Int32) (h0 : Heap) (n0 : Nat) (Z0 : n0 ≤ h0.size) (P5 : ¬ (gc1 = (0 : Int32))) (hq1 : own_R p1) (hq2 : own_R p2) (S_COMPACT_STRINGS : Sta Z h0 "java/lang/String" "COMPACT_STRINGS" "Z" (.int gc1)) :
    MetFree l (⟨"com/example/oversee/oversee/model/VariableEqualsPinLaw", "mk", "(ICC)Ljava/lang/String;"⟩ : MethodName) (head1 (Jvm.Cond.code (⟨"com/example/oversee/oversee/model/VariableEqualsPinLaw", "mk", "(ICC)Ljava/lang/String;"⟩ : MethodName) method_2_code 3 (some (.object "java/lang/String")) :: ws) ({ frames := 4, cells := 6, slots := 12, locals := 66 } : Room)) (fun a U => a = #[(.int p0), (.int p1), (.int p2)] ∧ Z.Warmed39 U.vm ∧ U.heap = h0 ∧ CHv Z own_EL U.vm h0) (fun _ _ _ _ _ => True) (fun _ U o U' => ∃ v L, o = .returned v ∧ Q2 Z p0 p1 p2 gc1 h0 n0 v U'.heap L ∧ CHr Z own_EL U.vm U.heap U'.vm U'.heap ∧ ReturnedEndW U o U' L ({ frames := 4, cells := 6, slots := 12, locals := 66 } : Room).cells ({ frames := 4, cells := 6, slots := 12, locals := 66 } : Room).slots) := by
  refine MetFree.of_bodySF (plainFor_of_name pn_2) hisR ?_
  intro p e s m args below meth c s₁ Bd hml0 hP hK
  obtain ⟨rfl, hZ, hh, hC0⟩ := hP
  have hx := Bd.exec
  have hby := Bd.bytes
  have hml : c.maxLocals = 3 := hml0
  have hown : s.vm.findClass "com/example/oversee/oversee/model/VariableEqualsPinLaw" = some m.cls := by have q := findClass_of_methodNamed Bd.named; exact q
  have hnm := (name_of_methodNamed Bd.named Bd.method).1
  have X0 : Stand p l e ({ frames := 4, cells := 6, slots := 12, locals := 66 } : Room) s m #[(.int p0), (.int p1), (.int p2)] below meth c s₁ [] 0 0 := Stand.of_body Bd
  have e0 : s₁.heap = h0 := by rw [← hh, Bd.state]; rfl
  have N0 := Fr.nil n0
  have hS0 : s.Since s.vm 0 := own_since0 s
  have hCR0 : CHr Z own_EL s.vm h0 s.vm h0 := CHr.refl hC0
  have hEL : EW Z ar0 own_EL := own_EW hw
  have pre0 : ∀ t, Steps p.tables e below (s₁.setTop (mkF m 0 #[.val (.int p0), .val (.int p1), .val (.int p2)] [])) t → Steps p.tables e below (s₁.setTop (entryFrame m #[(.int p0), (.int p1), (.int p2)] 3)) t := fun t k => castTop (ef_2 m p0 p1 p2) k
  have pre101 : ∀ t, Steps p.tables e below (s₁.setTop (mkF m 1 #[.val (.int p0), .val (.int p1), .val (.int p2)] [(.int p0)])) t → Steps p.tables e below (s₁.setTop (entryFrame m #[(.int p0), (.int p1), (.int p2)] 3)) t := by
    intro t k
    refine pre0 t ?_
    show Steps p.tables e below (s₁.setTop (mkF m 0 #[.val (.int p0), .val (.int p1), .val (.int p2)] [])) _
    refine XS.iloadN X0.here hx rfl (hb hby d2_0) rfl ?_
    exact k
  by_cases hc1_102 : p0 = (0 : Int32)
  · have pre103 : ∀ t, Steps p.tables e below (s₁.setTop (mkF m 4 #[.val (.int p0), .val (.int p1), .val (.int p2)] [])) t → Steps p.tables e below (s₁.setTop (entryFrame m #[(.int p0), (.int p1), (.int p2)] 3)) t := by
      intro t k
      refine pre101 t ?_
      show Steps p.tables e below (s₁.setTop (mkF m 1 #[.val (.int p0), .val (.int p1), .val (.int p2)] [(.int p0)])) _
      refine XS.ifNo X0.here hx rfl (hb hby d2_1) rfl ((if0 _ _).trans (teq hc1_102).2) ?_
      exact k
    obtain ⟨T104, h104, X104, e104, E104, A104, D104, -, st104⟩ := newO X0 hx hZ hown (hw _ (List.mem_of_getElem? (i := 8) rfl)) (hw _ (List.mem_of_getElem? (i := 9) rfl)) (hw _ (List.mem_of_getElem? (i := 10) rfl)) e0 (g := (mkF m 4 #[.val (.int p0), .val (.int p1), .val (.int p2)] [])) rfl (hb hby d2_4) (by decide) (by decide)
    obtain ⟨b104, g104⟩ : ∃ z, z = h0.size := ⟨_, rfl⟩
    rw [← g104] at A104 D104 st104
    have g_b104 : n0 ≤ b104 := Nat.le_trans Z0 (Nat.le_of_eq g104.symm)
    have sz_b104 : h0.size ≤ b104 := Nat.le_trans (Keep.refl h0 []).1 (Nat.le_of_eq g104.symm)
    have Z104 : n0 ≤ h104.size := Nat.le_trans Z0 E104.1
    have K104 : Keep h0 h104 [] := (Keep.refl h0 []).ext E104
    have hk104 := Nat.le_trans (Nat.zero_le _) E104.1
    have CR104 := hCR0.trans (CHr.ext E104 hCR0.1)
    have Sf105 : Sta Z h104 "java/lang/String" "COMPACT_STRINGS" "Z" (.int gc1) := (S_COMPACT_STRINGS).ext E104
    have sf_b104 := Safe.ext E104 hCR0.1 (Safe.new (Nat.le_of_eq g104.symm))
    have Fvalue_b104 : Fld Z h104 b104 "java/lang/String" "value" "[B" .null := D104 (Or.inr (hw _ (List.mem_of_getElem? (i := 24) rfl))) (ty := (.array .byte)) (by decide)
    have Fcoder_b104 : Fld Z h104 b104 "java/lang/String" "coder" "B" (.int (0 : Int32)) := D104 (Or.inr (hw _ (List.mem_of_getElem? (i := 25) rfl))) (ty := .byte) (by decide)
    have pre106 : ∀ t, Steps p.tables e below (T104.setTop (mkF m 7 #[.val (.int p0), .val (.int p1), .val (.int p2)] [(.ref b104)])) t → Steps p.tables e below (s₁.setTop (entryFrame m #[(.int p0), (.int p1), (.int p2)] 3)) t := fun t k => pre103 t (st104 t k)
    have pre107 : ∀ t, Steps p.tables e below (T104.setTop (mkF m 9 #[.val (.int p0), .val (.int p1), .val (.int p2)] [(.int (0 : Int32)), (.ref b104), (.ref b104)])) t → Steps p.tables e below (s₁.setTop (entryFrame m #[(.int p0), (.int p1), (.int p2)] 3)) t := by
      intro t k
      refine pre106 t ?_
      show Steps p.tables e below (T104.setTop (mkF m 7 #[.val (.int p0), .val (.int p1), .val (.int p2)] [(.ref b104)])) _
      refine XS.dup X104.here hx rfl (hb hby d2_7) rfl rfl ?_
      refine XS.iconst X104.here hx rfl (hb hby d2_8) ?_
      exact k
    obtain ⟨T108, h108, k108, X108, e108, E108, A108, C108, st108⟩ := newPE X104 hx hZ (hw _ (List.mem_of_getElem? (i := 11) rfl)) e104 (g := (mkF m 9 #[.val (.int p0), .val (.int p1), .val (.int p2)] [(.int (0 : Int32)), (.ref b104), (.ref b104)])) rfl (hb hby d2_9) rfl (by decide) (cap := 0) (by decide) (by decide) (by decide) (by decide) (ad := "[C") rfl
    obtain ⟨b108, g108⟩ : ∃ z, z = h104.size := ⟨_, rfl⟩
    rw [← g108] at A108 C108 st108
    have ne_b104_b108 : b104 ≠ b108 := Nat.ne_of_lt (Nat.lt_of_lt_of_le (A104).lt (Nat.le_of_eq g108.symm))
    have g_b108 : n0 ≤ b108 := Nat.le_trans Z104 (Nat.le_of_eq g108.symm)
    have sz_b108 : h0.size ≤ b108 := Nat.le_trans K104.1 (Nat.le_of_eq g108.symm)
    have Z108 : n0 ≤ h108.size := Nat.le_trans Z104 E108.1
    have K108 : Keep h0 h108 [] := K104.ext E108
    have hk108 := Nat.le_trans hk104 E108.1
    have sf_b104_108 := Safe.ext E108 CR104.1 sf_b104
    have CR108 := CR104.trans (CHr.ext E108 CR104.1)
    have Sf109 : Sta Z h108 "java/lang/String" "COMPACT_STRINGS" "Z" (.int gc1) := (Sf105).ext E108
    have Ef110 : Exa Z h108 b104 "java/lang/String" := (A104).ext E108
    have Ff111 : Fld Z h108 b104 "java/lang/String" "value" "[B" .null := (Fvalue_b104).ext E108
    have Ff112 : Fld Z h108 b104 "java/lang/String" "coder" "B" (.int (0 : Int32)) := (Fcoder_b104).ext E108
    have V_b108 : Arv Z h108 b108 k108 .char (0 : Int32) [] (.int (0 : Int32)) := (Arv.new A108 (by decide)).pad (pad_rep [] (.int (0 : Int32)) 0)
    have pre113 : ∀ t, Steps p.tables e below (T108.setTop (mkF m 11 #[.val (.int p0), .val (.int p1), .val (.int p2)] [(.ref b108), (.ref b104), (.ref b104)])) t → Steps p.tables e below (s₁.setTop (entryFrame m #[(.int p0), (.int p1), (.int p2)] 3)) t := fun t k => pre107 t (st108 t k)
    obtain ⟨_, _, ⟨T114, L114, k114, n114⟩, -, X114r, hS114r, hg114r, ⟨Lc114, hQ114, l114, y114, z114, hC114⟩, st114⟩ := X108.specialBackS hx (y := (⟨"java/lang/String", "<init>", "([C)V"⟩ : MethodName)) rfl hown (mvT hZ (hw _ (List.mem_of_getElem? (i := 12) rfl))) (mvT hZ (hw _ (List.mem_of_getElem? (i := 13) rfl))) (mvT hZ (hw _ (List.mem_of_getElem? (i := 14) rfl))) (by decide) (backOfSH (W := 1) (rm3_0 l Z ar0 hw [] b104 b108 k108 h108 n0 Z108 Ef110 Ff111 Ff112 V_b108 g_b104 ne_b104_b108.symm) hZ (hw _ (List.mem_of_getElem? (i := 14) rfl)) (hw _ (List.mem_of_getElem? (i := 10) rfl)) (by decide) (by decide) hEL CR108.1) (g := (mkF m 11 #[.val (.int p0), .val (.int p1), .val (.int p2)] [(.ref b108), (.ref b104), (.ref b104)])) rfl (by rw [hml]; rfl) (Steps.refl _) (a := b104) (argsL := [(.ref b108)]) (rest := [(.ref b104)]) (lenOf pd_4 rfl) rfl (by show 2 * 0 + _ ≤ _; exact Nat.le_of_eq rfl) (hb hby d2_11) (fun _ _ => ⟨rfl, e108, (by decide : 2 + 4 ≤ _), (by decide : 4 + 8 ≤ _)⟩)
    dsimp only [Pt.U, Pt.locs, Pt.cells, Pt.slots] at X114r hS114r hg114r l114 y114 z114 st114 hQ114 hC114
    subst l114 y114 z114
    obtain ⟨X114, hS114, hZ114, ho114⟩ := rebS (s := s) (vm0 := s.vm) (n1 := T108.heap.size) hS0 (by rw [e108]; first | exact hk108 | exact Nat.le_refl _) X114r hS114r hg114r hZ hown
    obtain ⟨h114, e114⟩ : ∃ h, T114.heap = h := ⟨_, rfl⟩
    rw [e114] at hQ114
    obtain ⟨b114, kb114, rfl, N114q, K114q, Q114_0, Q114_1, Q114_2, Ob114_0⟩ := hQ114
    have N114 := Fr.app N0 N114q
    have Z114 : n0 ≤ h114.size := Nat.le_trans Z108 K114q.1
    have K114 : Keep h0 h114 [] := K108.trans K114q (fun x hx => by cases List.mem_singleton.mp hx; exact Or.inr sz_b104)
    have Sf115 : Sta Z h114 "java/lang/String" "COMPACT_STRINGS" "Z" (.int gc1) := own_sta_keep Sf109 K114q (own_ns1 (own_ns_exa Ef110))
    have Ef116 : Exa Z h114 b104 "java/lang/String" := (Ef110).keep K114q
    have Vf117 : Arv Z h114 b108 k108 .char (0 : Int32) [] (.int (0 : Int32)) := (V_b108).keep K114q (fun q => absurd (List.mem_singleton.mp q) ne_b104_b108.symm)
    have Ef118 : Exa Z h114 b108 "[C" := (C108).keep K114q
    rw [e114] at hC114
    have CR114 := CR108.trans hC114
    have hk114 : T114.heap.size ≤ h114.size := by rw [e114]; exact Nat.le_refl _
    have pre119 : ∀ t, Steps p.tables e below (T114.setTop (mkF m 14 #[.val (.int p0), .val (.int p1), .val (.int p2)] [(.ref b104)])) t → Steps p.tables e below (s₁.setTop (entryFrame m #[(.int p0), (.int p1), (.int p2)] 3)) t := fun t k => pre113 t (st114.trans k)
    have Bm120 : Arv Z h114 b114 kb114 .byte (Int32.ofNat (own_cs p0 p1 p2).length) ((((own_cs p0 p1 p2) : List Int32).map (fun c => c.toInt8.toInt32)).map Value.int) (.int (0 : Int32)) := by rw [own_cs0 hc1_102]; exact Ob114_0
    obtain ⟨fs, hr, hrun, hended, hRW⟩ := X114.leaveW (s := s) (vm₁ := T114.vm) hS114 (by rw [e114]; first | exact hk114 | exact Nat.le_refl _) (v := some (.ref b104)) (fun h => by rw [Bd.returns] at h; cases h)
    refine ⟨_, _, pre119 _ ?_, hrun, hended, _, _, rfl, ?_, ?_, hRW.1, hRW.2.1, hRW.2.2.1, hRW.2.2.2.mono (by decide) (by decide)⟩
    · show Steps p.tables e below (T114.setTop (mkF m 14 #[.val (.int p0), .val (.int p1), .val (.int p2)] [(.ref b104)])) _
      exact retOut X114 hx Bd.returns rfl (Or.inr (Or.inr (Or.inr (Or.inr ⟨rfl, rfl, rfl⟩)))) (hb hby d2_14) hr
    · show Q2 Z p0 p1 p2 gc1 h0 n0 _ T114.heap _
      rw [e114]
      exact ⟨b104, b114, kb114, rfl, N114, K114, sz_b104, Q114_0, Q114_1, Q114_2, Bm120⟩
    · have q := CR114.trans (CHv.at X114 hZ114 hEL CR114.1)
      rw [hh]
      show CHr _ _ _ _ T114.vm T114.heap
      rw [e114]
      exact q
  · have pre121 : ∀ t, Steps p.tables e below (s₁.setTop (mkF m 17 #[.val (.int p0), .val (.int p1), .val (.int p2)] [(.int (1 : Int32)), (.int p0)])) t → Steps p.tables e below (s₁.setTop (entryFrame m #[(.int p0), (.int p1), (.int p2)] 3)) t := by
      intro t k
      refine pre101 t ?_
      show Steps p.tables e below (s₁.setTop (mkF m 1 #[.val (.int p0), .val (.int p1), .val (.int p2)] [(.int p0)])) _
      refine XS.ifYes X0.here hx rfl (pc0 := 1) (pc' := 15) rfl (hb hby d2_1) rfl ((if0 _ _).trans (feq hc1_102).2) (by decide) (by decide) ?_
      refine XS.iloadN X0.here hx rfl (hb hby d2_15) rfl ?_
      refine XS.iconst X0.here hx rfl (hb hby d2_16) ?_
      exact k
    by_cases hc17_122 : p0 = (1 : Int32)
    · have pre123 : ∀ t, Steps p.tables e below (s₁.setTop (mkF m 21 #[.val (.int p0), .val (.int p1), .val (.int p2)] [(.int p1)])) t → Steps p.tables e below (s₁.setTop (entryFrame m #[(.int p0), (.int p1), (.int p2)] 3)) t := by
        intro t k
        refine pre121 t ?_
        show Steps p.tables e below (s₁.setTop (mkF m 17 #[.val (.int p0), .val (.int p1), .val (.int p2)] [(.int (1 : Int32)), (.int p0)])) _
        refine XS.icmpNo X0.here hx rfl (hb hby d2_17) rfl (teq hc17_122).2 ?_
        refine XS.iloadN X0.here hx rfl (hb hby d2_20) rfl ?_
        exact k
      obtain ⟨_, _, ⟨T124, L124, k124, n124⟩, -, X124, ⟨Lc124, hQ124, l124, y124, z124⟩, st124⟩ := Jvm.LawKit.callS X0 hx (y := (⟨"java/lang/String", "valueOf", "(C)Ljava/lang/String;"⟩ : MethodName)) hown (mvT hZ (hw _ (List.mem_of_getElem? (i := 61) rfl))) (mvT hZ (hw _ (List.mem_of_getElem? (i := 62) rfl))) (mvT hZ (hw _ (List.mem_of_getElem? (i := 10) rfl))) (mvT hZ (hw _ (List.mem_of_getElem? (i := 63) rfl))) (by decide) (backOf (W := 0) (rm10 l Z ar0 hw [] p1 gc1 h0 n0 Z0 P5 hq1 S_COMPACT_STRINGS) hZ (hw _ (List.mem_of_getElem? (i := 63) rfl)) (hw _ (List.mem_of_getElem? (i := 10) rfl)) (by decide) (by decide)) (g := (mkF m 21 #[.val (.int p0), .val (.int p1), .val (.int p2)] [(.int p1)])) rfl (by rw [hml]; rfl) (argsL := [(.int p1)]) (rest := []) (lenOf pd_5 rfl) rfl (by show 2 * 0 + _ ≤ _; exact Nat.le_of_eq rfl) (hb hby d2_21) (fun _ _ => ⟨rfl, e0, (by decide : 0 + 2 ≤ _), (by decide : 0 + 5 ≤ _)⟩)
      dsimp only [Pt.U, Pt.locs, Pt.cells, Pt.slots] at X124 l124 y124 z124 st124 hQ124
      subst l124 y124 z124
      obtain ⟨h124, e124⟩ : ∃ h, T124.heap = h := ⟨_, rfl⟩
      rw [e124] at hQ124
      obtain ⟨b124, b124b, kb124b, rfl, N124q, K124q, y_b124, Ob124_0, Ob124_1, Ob124_2, y_b124b, Ob124b_0, Ob124b_1⟩ := hQ124
      have N124 := Fr.app N0 N124q
      have g_b124 : n0 ≤ b124 := Nat.le_trans Z0 y_b124
      have sz_b124 : h0.size ≤ b124 := Nat.le_trans (Keep.refl h0 []).1 y_b124
      have g_b124b : n0 ≤ b124b := Nat.le_trans Z0 y_b124b
      have sz_b124b : h0.size ≤ b124b := Nat.le_trans (Keep.refl h0 []).1 y_b124b
      have Z124 : n0 ≤ h124.size := Nat.le_trans Z0 K124q.1
      have hk124 := Nat.le_trans (Nat.zero_le _) K124q.1
      have K124 : Keep h0 h124 [] := (Keep.refl h0 []).trans K124q (fun x hx => absurd hx List.not_mem_nil)
      have CR124 := hCR0.trans (CHr.keep K124q sf0 hCR0.1)
      have Sf125 : Sta Z h124 "java/lang/String" "COMPACT_STRINGS" "Z" (.int gc1) := own_sta_keep0 S_COMPACT_STRINGS K124q
      have pre126 : ∀ t, Steps p.tables e below (T124.setTop (mkF m 24 #[.val (.int p0), .val (.int p1), .val (.int p2)] [(.ref b124)])) t → Steps p.tables e below (s₁.setTop (entryFrame m #[(.int p0), (.int p1), (.int p2)] 3)) t := fun t k => pre123 t (st124 t k)
      have Bm127 : Arv Z h124 b124b kb124b .byte (Int32.ofNat (own_cs p0 p1 p2).length) ((((own_cs p0 p1 p2) : List Int32).map (fun c => c.toInt8.toInt32)).map Value.int) (.int (0 : Int32)) := by rw [own_cs1 hc1_102 hc17_122]; exact Ob124b_1
      obtain ⟨fs, hr, hrun, hended, hRW⟩ := X124.leaveW (s := s) (vm₁ := s.vm) hS0 (by rw [e124]; first | exact hk124 | exact Nat.le_refl _) (v := some (.ref b124)) (fun h => by rw [Bd.returns] at h; cases h)
      refine ⟨_, _, pre126 _ ?_, hrun, hended, _, _, rfl, ?_, ?_, hRW.1, hRW.2.1, hRW.2.2.1, hRW.2.2.2.mono (by decide) (by decide)⟩
      · show Steps p.tables e below (T124.setTop (mkF m 24 #[.val (.int p0), .val (.int p1), .val (.int p2)] [(.ref b124)])) _
        exact retOut X124 hx Bd.returns rfl (Or.inr (Or.inr (Or.inr (Or.inr ⟨rfl, rfl, rfl⟩)))) (hb hby d2_24) hr
      · show Q2 Z p0 p1 p2 gc1 h0 n0 _ T124.heap _
        rw [e124]
        exact ⟨b124, b124b, kb124b, rfl, N124, K124, sz_b124, Ob124_0, Ob124_1, Ob124_2, Bm127⟩
      · have q := CR124.trans (CHv.at X124 hZ hEL CR124.1)
        rw [hh]
        show CHr _ _ _ _ T124.vm T124.heap
        rw [e124]
        exact q
    · have pre128 : ∀ t, Steps p.tables e below (s₁.setTop (mkF m 25 #[.val (.int p0), .val (.int p1), .val (.int p2)] [])) t → Steps p.tables e below (s₁.setTop (entryFrame m #[(.int p0), (.int p1), (.int p2)] 3)) t := by
        intro t k
        refine pre121 t ?_
        show Steps p.tables e below (s₁.setTop (mkF m 17 #[.val (.int p0), .val (.int p1), .val (.int p2)] [(.int (1 : Int32)), (.int p0)])) _
        refine XS.icmpYes X0.here hx rfl (pc0 := 17) (pc' := 25) rfl (hb hby d2_17) rfl (feq hc17_122).2 (by decide) (by decide) ?_
        exact k
      obtain ⟨T129, h129, X129, e129, E129, A129, D129, -, st129⟩ := newO X0 hx hZ hown (hw _ (List.mem_of_getElem? (i := 8) rfl)) (hw _ (List.mem_of_getElem? (i := 9) rfl)) (hw _ (List.mem_of_getElem? (i := 10) rfl)) e0 (g := (mkF m 25 #[.val (.int p0), .val (.int p1), .val (.int p2)] [])) rfl (hb hby d2_25) (by decide) (by decide)
      obtain ⟨b129, g129⟩ : ∃ z, z = h0.size := ⟨_, rfl⟩
      rw [← g129] at A129 D129 st129
      have g_b129 : n0 ≤ b129 := Nat.le_trans Z0 (Nat.le_of_eq g129.symm)
      have sz_b129 : h0.size ≤ b129 := Nat.le_trans (Keep.refl h0 []).1 (Nat.le_of_eq g129.symm)
      have Z129 : n0 ≤ h129.size := Nat.le_trans Z0 E129.1
      have K129 : Keep h0 h129 [] := (Keep.refl h0 []).ext E129
      have hk129 := Nat.le_trans (Nat.zero_le _) E129.1
      have CR129 := hCR0.trans (CHr.ext E129 hCR0.1)
      have Sf130 : Sta Z h129 "java/lang/String" "COMPACT_STRINGS" "Z" (.int gc1) := (S_COMPACT_STRINGS).ext E129
      have sf_b129 := Safe.ext E129 hCR0.1 (Safe.new (Nat.le_of_eq g129.symm))
      have Fvalue_b129 : Fld Z h129 b129 "java/lang/String" "value" "[B" .null := D129 (Or.inr (hw _ (List.mem_of_getElem? (i := 24) rfl))) (ty := (.array .byte)) (by decide)
      have Fcoder_b129 : Fld Z h129 b129 "java/lang/String" "coder" "B" (.int (0 : Int32)) := D129 (Or.inr (hw _ (List.mem_of_getElem? (i := 25) rfl))) (ty := .byte) (by decide)
      have pre131 : ∀ t, Steps p.tables e below (T129.setTop (mkF m 28 #[.val (.int p0), .val (.int p1), .val (.int p2)] [(.ref b129)])) t → Steps p.tables e below (s₁.setTop (entryFrame m #[(.int p0), (.int p1), (.int p2)] 3)) t := fun t k => pre128 t (st129 t k)
      have pre132 : ∀ t, Steps p.tables e below (T129.setTop (mkF m 30 #[.val (.int p0), .val (.int p1), .val (.int p2)] [(.int (2 : Int32)), (.ref b129), (.ref b129)])) t → Steps p.tables e below (s₁.setTop (entryFrame m #[(.int p0), (.int p1), (.int p2)] 3)) t := by
        intro t k
        refine pre131 t ?_
        show Steps p.tables e below (T129.setTop (mkF m 28 #[.val (.int p0), .val (.int p1), .val (.int p2)] [(.ref b129)])) _
        refine XS.dup X129.here hx rfl (hb hby d2_28) rfl rfl ?_
        refine XS.iconst X129.here hx rfl (hb hby d2_29) ?_
        exact k
      obtain ⟨T133, h133, k133, X133, e133, E133, A133, C133, st133⟩ := newPE X129 hx hZ (hw _ (List.mem_of_getElem? (i := 11) rfl)) e129 (g := (mkF m 30 #[.val (.int p0), .val (.int p1), .val (.int p2)] [(.int (2 : Int32)), (.ref b129), (.ref b129)])) rfl (hb hby d2_30) rfl (by decide) (cap := 2) (by decide) (by decide) (by decide) (by decide) (ad := "[C") rfl
      obtain ⟨b133, g133⟩ : ∃ z, z = h129.size := ⟨_, rfl⟩
      rw [← g133] at A133 C133 st133
      have ne_b129_b133 : b129 ≠ b133 := Nat.ne_of_lt (Nat.lt_of_lt_of_le (A129).lt (Nat.le_of_eq g133.symm))
      have g_b133 : n0 ≤ b133 := Nat.le_trans Z129 (Nat.le_of_eq g133.symm)
      have sz_b133 : h0.size ≤ b133 := Nat.le_trans K129.1 (Nat.le_of_eq g133.symm)
      have Z133 : n0 ≤ h133.size := Nat.le_trans Z129 E133.1
      have K133 : Keep h0 h133 [] := K129.ext E133
      have hk133 := Nat.le_trans hk129 E133.1
      have sf_b129_133 := Safe.ext E133 CR129.1 sf_b129
      have CR133 := CR129.trans (CHr.ext E133 CR129.1)
      have Sf134 : Sta Z h133 "java/lang/String" "COMPACT_STRINGS" "Z" (.int gc1) := (Sf130).ext E133
      have Ef135 : Exa Z h133 b129 "java/lang/String" := (A129).ext E133
      have Ff136 : Fld Z h133 b129 "java/lang/String" "value" "[B" .null := (Fvalue_b129).ext E133
      have Ff137 : Fld Z h133 b129 "java/lang/String" "coder" "B" (.int (0 : Int32)) := (Fcoder_b129).ext E133
      have V_b133 : Arv Z h133 b133 k133 .char (2 : Int32) [(.int (0 : Int32)), (.int (0 : Int32))] (.int (0 : Int32)) := (Arv.new A133 (by decide)).pad (pad_rep [] (.int (0 : Int32)) 2)
      have pre138 : ∀ t, Steps p.tables e below (T133.setTop (mkF m 32 #[.val (.int p0), .val (.int p1), .val (.int p2)] [(.ref b133), (.ref b129), (.ref b129)])) t → Steps p.tables e below (s₁.setTop (entryFrame m #[(.int p0), (.int p1), (.int p2)] 3)) t := fun t k => pre132 t (st133 t k)
      have pre139 : ∀ t, Steps p.tables e below (T133.setTop (mkF m 35 #[.val (.int p0), .val (.int p1), .val (.int p2)] [(.int p1), (.int (0 : Int32)), (.ref b133), (.ref b133), (.ref b129), (.ref b129)])) t → Steps p.tables e below (s₁.setTop (entryFrame m #[(.int p0), (.int p1), (.int p2)] 3)) t := by
        intro t k
        refine pre138 t ?_
        show Steps p.tables e below (T133.setTop (mkF m 32 #[.val (.int p0), .val (.int p1), .val (.int p2)] [(.ref b133), (.ref b129), (.ref b129)])) _
        refine XS.dup X133.here hx rfl (hb hby d2_32) rfl rfl ?_
        refine XS.iconst X133.here hx rfl (hb hby d2_33) ?_
        refine XS.iloadN X133.here hx rfl (hb hby d2_34) rfl ?_
        exact k
      obtain ⟨cl140, Ar140, q140, S140, M140, H140, G140⟩ := id V_b133
      have hin140 : ¬ ((0 : Int32) < 0 ∨ cl140.slots.size ≤ ((0 : Int32)).toNatClampNeg) := inb_of S140 ⟨by decide, by decide⟩
      obtain ⟨T140, h140, X140, e140, W140, st140⟩ := stC X133 hx hZ e133 Ar140 (j := (0 : Int32)) hin140 (g := (mkF m 35 #[.val (.int p0), .val (.int p1), .val (.int p2)] [(.int p1), (.int (0 : Int32)), (.ref b133), (.ref b133), (.ref b129), (.ref b129)])) rfl rfl (hb hby d2_35)
      have Z140 : n0 ≤ h140.size := Nat.le_trans Z133 (Keep.of_wr W140).1
      have K140 : Keep h0 h140 [] := K133.wr W140 (Or.inr sz_b133)
      have N140 := Fr.snoc X140 N0 g_b133
      have hk140 := Nat.le_trans hk133 (Keep.of_wr W140).1
      have sf_b129_140 := Safe.wr W140 (Safe.arv hZ.alike V_b133 (by decide)) CR133.1 sf_b129_133
      have CR140 := CR133.trans (CHr.wr W140 (Safe.arv hZ.alike V_b133 (by decide)) CR133.1)
      have Sf141 : Sta Z h140 "java/lang/String" "COMPACT_STRINGS" "Z" (.int gc1) := (Sf134).wr W140
      have Ef142 : Exa Z h140 b129 "java/lang/String" := (Ef135).wr W140
      have Ff143 : Fld Z h140 b129 "java/lang/String" "value" "[B" .null := (Ff136).other W140 (Or.inl ne_b129_b133)
      have Ff144 : Fld Z h140 b129 "java/lang/String" "coder" "B" (.int (0 : Int32)) := (Ff137).other W140 (Or.inl ne_b129_b133)
      have Ef145 : Exa Z h140 b133 "[C" := (C133).wr W140
      have V140 : Arv Z h140 b133 k133 .char (2 : Int32) [(.int (nar .char p1)), (.int (0 : Int32))] (.int (0 : Int32)) := Arv.set Ar140 q140 S140 M140 H140 G140 (fits_nar_char _) W140 0 rfl (Nat.le_of_ble_eq_true rfl)
      have pre146 : ∀ t, Steps p.tables e below (T140.setTop (mkF m 36 #[.val (.int p0), .val (.int p1), .val (.int p2)] [(.ref b133), (.ref b129), (.ref b129)])) t → Steps p.tables e below (s₁.setTop (entryFrame m #[(.int p0), (.int p1), (.int p2)] 3)) t := fun t k => pre139 t (st140 t k)
      have pre147 : ∀ t, Steps p.tables e below (T140.setTop (mkF m 39 #[.val (.int p0), .val (.int p1), .val (.int p2)] [(.int p2), (.int (1 : Int32)), (.ref b133), (.ref b133), (.ref b129), (.ref b129)])) t → Steps p.tables e below (s₁.setTop (entryFrame m #[(.int p0), (.int p1), (.int p2)] 3)) t := by
        intro t k
        refine pre146 t ?_
        show Steps p.tables e below (T140.setTop (mkF m 36 #[.val (.int p0), .val (.int p1), .val (.int p2)] [(.ref b133), (.ref b129), (.ref b129)])) _
        refine XS.dup X140.here hx rfl (hb hby d2_36) rfl rfl ?_
        refine XS.iconst X140.here hx rfl (hb hby d2_37) ?_
        refine XS.iloadN X140.here hx rfl (hb hby d2_38) rfl ?_
        exact k
      obtain ⟨cl148, Ar148, q148, S148, M148, H148, G148⟩ := id V140
      have hin148 : ¬ ((1 : Int32) < 0 ∨ cl148.slots.size ≤ ((1 : Int32)).toNatClampNeg) := inb_of S148 ⟨by decide, by decide⟩
      obtain ⟨T148, h148, X148, e148, W148, st148⟩ := stC X140 hx hZ e140 Ar148 (j := (1 : Int32)) hin148 (g := (mkF m 39 #[.val (.int p0), .val (.int p1), .val (.int p2)] [(.int p2), (.int (1 : Int32)), (.ref b133), (.ref b133), (.ref b129), (.ref b129)])) rfl rfl (hb hby d2_39)
      have Z148 : n0 ≤ h148.size := Nat.le_trans Z140 (Keep.of_wr W148).1
      have K148 : Keep h0 h148 [] := K140.wr W148 (Or.inr sz_b133)
      have N148 := Fr.snoc X148 N140 g_b133
      have hk148 := Nat.le_trans hk140 (Keep.of_wr W148).1
      have sf_b129_148 := Safe.wr W148 (Safe.arv hZ.alike V140 (by decide)) CR140.1 sf_b129_140
      have CR148 := CR140.trans (CHr.wr W148 (Safe.arv hZ.alike V140 (by decide)) CR140.1)
      have Sf149 : Sta Z h148 "java/lang/String" "COMPACT_STRINGS" "Z" (.int gc1) := (Sf141).wr W148
      have Ef150 : Exa Z h148 b129 "java/lang/String" := (Ef142).wr W148
      have Ff151 : Fld Z h148 b129 "java/lang/String" "value" "[B" .null := (Ff143).other W148 (Or.inl ne_b129_b133)
      have Ff152 : Fld Z h148 b129 "java/lang/String" "coder" "B" (.int (0 : Int32)) := (Ff144).other W148 (Or.inl ne_b129_b133)
      have Ef153 : Exa Z h148 b133 "[C" := (Ef145).wr W148
      have V148 : Arv Z h148 b133 k133 .char (2 : Int32) [(.int (nar .char p1)), (.int (nar .char p2))] (.int (0 : Int32)) := Arv.set Ar148 q148 S148 M148 H148 G148 (fits_nar_char _) W148 1 rfl (Nat.le_of_ble_eq_true rfl)
      have pre154 : ∀ t, Steps p.tables e below (T148.setTop (mkF m 40 #[.val (.int p0), .val (.int p1), .val (.int p2)] [(.ref b133), (.ref b129), (.ref b129)])) t → Steps p.tables e below (s₁.setTop (entryFrame m #[(.int p0), (.int p1), (.int p2)] 3)) t := fun t k => pre147 t (st148 t k)
      have hp156 : ∀ c ∈ ([(nar .char p1), (nar .char p2)] : List Int32), ¬ c < 0 ∧ ¬ (255 : Int32) < c := own_hp2 hq1 hq2
      obtain ⟨_, _, ⟨T155, L155, k155, n155⟩, -, X155, ⟨Lc155, hQ155, l155, y155, z155⟩, st155⟩ := X148.specialBack hx (y := (⟨"java/lang/String", "<init>", "([C)V"⟩ : MethodName)) rfl hown (mvT hZ (hw _ (List.mem_of_getElem? (i := 12) rfl))) (mvT hZ (hw _ (List.mem_of_getElem? (i := 13) rfl))) (mvT hZ (hw _ (List.mem_of_getElem? (i := 14) rfl))) (by decide) (StrChars.Road.backV (W := 1) hZ (own_words hw) (kI := 4) (hw _ (List.mem_of_getElem? (i := 9) rfl)) (cs := ([(nar .char p1), (nar .char p2)] : List Int32)) (bs := (([(nar .char p1), (nar .char p2)] : List Int32)).map (fun c => c.toInt8.toInt32)) (n := 2) g_b129 Z148 Ef150 Ff151 Ff152 V148 Sf149 P5 rfl rfl (by decide) (by decide) hp156 rfl (by decide) (by decide)) (g := (mkF m 40 #[.val (.int p0), .val (.int p1), .val (.int p2)] [(.ref b133), (.ref b129), (.ref b129)])) rfl (by rw [hml]; rfl) (Steps.refl _) (a := b129) (argsL := [(.ref b133)]) (rest := [(.ref b129)]) (lenOf pd_4 rfl) rfl (by show 2 * 0 + _ ≤ _; exact Nat.le_of_eq rfl) (hb hby d2_40) (fun _ _ => ⟨rfl, e148, (by decide : 2 + 1 ≤ _), (by decide : 6 + 2 ≤ _)⟩)
      dsimp only [Pt.U, Pt.locs, Pt.cells, Pt.slots] at X155 l155 y155 z155 st155 hQ155
      subst l155 y155 z155
      obtain ⟨h155, e155⟩ : ∃ h, T155.heap = h := ⟨_, rfl⟩
      rw [e155] at hQ155
      obtain ⟨rfl, N155q, K155q, QE155, QC155, t155, kt155, g_t155, y_t155, ne155, QV155, QB155⟩ := hQ155
      have N155 := Fr.app N148 N155q
      have ne_b129_t155 : b129 ≠ t155 := Nat.ne_of_lt (Nat.lt_of_lt_of_le (Ef150).lt y_t155)
      have ne_b133_t155 : b133 ≠ t155 := Nat.ne_of_lt (Nat.lt_of_lt_of_le (Ef153).lt y_t155)
      have sz_t155 : h0.size ≤ t155 := Nat.le_trans K148.1 y_t155
      have Z155 : n0 ≤ h155.size := Nat.le_trans Z148 K155q.1
      have K155 : Keep h0 h155 [] := K148.trans K155q (fun x hx => by cases List.mem_singleton.mp hx; exact Or.inr sz_b129)
      have hk155 := Nat.le_trans hk148 K155q.1
      have sf_b129_155 := Safe.keep K155q (sfS sf_b129_148 sf0) CR148.1 sf_b129_148
      have CR155 := CR148.trans (CHr.keep K155q (sfS sf_b129_148 sf0) CR148.1)
      have Sf157 : Sta Z h155 "java/lang/String" "COMPACT_STRINGS" "Z" (.int gc1) := own_sta_keep Sf149 K155q (own_ns1 (own_ns_exa Ef150))
      have Ef158 : Exa Z h155 b133 "[C" := (Ef153).keep K155q
      have Vf159 : Arv Z h155 b133 k133 .char (2 : Int32) [(.int (nar .char p1)), (.int (nar .char p2))] (.int (0 : Int32)) := (V148).keep K155q (fun q => absurd (List.mem_singleton.mp q) ne_b129_b133.symm)
      have hcd155 : StrChars.Road.CodA ([(nar .char p1), (nar .char p2)] : List Int32) 0 (2 : Int32) ((([(nar .char p1), (nar .char p2)] : List Int32).map (fun c => c.toInt8.toInt32)).map Value.int) := StrChars.Road.codOf (n := 2) rfl (fun x hx => (hp156 x hx).2)
      have hbd155 := own_up _ hp156
      have pre160 : ∀ t, Steps p.tables e below (T155.setTop (mkF m 43 #[.val (.int p0), .val (.int p1), .val (.int p2)] [(.ref b129)])) t → Steps p.tables e below (s₁.setTop (entryFrame m #[(.int p0), (.int p1), (.int p2)] 3)) t := fun t k => pre154 t (st155.trans k)
      have Bm161 : Arv Z h155 t155 kt155 .byte (Int32.ofNat (own_cs p0 p1 p2).length) ((((own_cs p0 p1 p2) : List Int32).map (fun c => c.toInt8.toInt32)).map Value.int) (.int (0 : Int32)) := by rw [own_cs2 hc1_102 hc17_122]; have q := QB155; rw [own_nar hq1, own_nar hq2] at q; exact q
      obtain ⟨fs, hr, hrun, hended, hRW⟩ := X155.leaveW (s := s) (vm₁ := s.vm) hS0 (by rw [e155]; first | exact hk155 | exact Nat.le_refl _) (v := some (.ref b129)) (fun h => by rw [Bd.returns] at h; cases h)
      refine ⟨_, _, pre160 _ ?_, hrun, hended, _, _, rfl, ?_, ?_, hRW.1, hRW.2.1, hRW.2.2.1, hRW.2.2.2.mono (by decide) (by decide)⟩
      · show Steps p.tables e below (T155.setTop (mkF m 43 #[.val (.int p0), .val (.int p1), .val (.int p2)] [(.ref b129)])) _
        exact retOut X155 hx Bd.returns rfl (Or.inr (Or.inr (Or.inr (Or.inr ⟨rfl, rfl, rfl⟩)))) (hb hby d2_43) hr
      · show Q2 Z p0 p1 p2 gc1 h0 n0 _ T155.heap _
        rw [e155]
        exact ⟨b129, t155, kt155, rfl, N155, K155, sz_b129, QE155, QV155, QC155, Bm161⟩
      · have q := CR155.trans (CHv.at X155 hZ hEL CR155.1)
        rw [hh]
        show CHr _ _ _ _ T155.vm T155.heap
        rw [e155]
        exact q
theorem d6_0 : decode method_3_code 0 = .ok (.iload_n 0, 1) := by decide +kernel
theorem d6_1 : decode method_3_code 1 = .ok (.ifCond .ne 7, 3) := by decide +kernel
theorem d6_4 : decode method_3_code 4 = .ok (.getstatic 16, 3) := by decide +kernel
theorem d6_7 : decode method_3_code 7 = .ok (.areturn, 1) := by decide +kernel
theorem d6_8 : decode method_3_code 8 = .ok (.iload_n 0, 1) := by decide +kernel
theorem d6_9 : decode method_3_code 9 = .ok (.iconst 1, 1) := by decide +kernel
theorem d6_10 : decode method_3_code 10 = .ok (.if_icmp .ne 7, 3) := by decide +kernel
theorem d6_13 : decode method_3_code 13 = .ok (.getstatic 22, 3) := by decide +kernel
theorem d6_16 : decode method_3_code 16 = .ok (.areturn, 1) := by decide +kernel
theorem d6_17 : decode method_3_code 17 = .ok (.iload_n 0, 1) := by decide +kernel
theorem d6_18 : decode method_3_code 18 = .ok (.iconst 2, 1) := by decide +kernel
theorem d6_19 : decode method_3_code 19 = .ok (.if_icmp .ne 7, 3) := by decide +kernel
theorem d6_22 : decode method_3_code 22 = .ok (.getstatic 25, 3) := by decide +kernel
theorem d6_25 : decode method_3_code 25 = .ok (.areturn, 1) := by decide +kernel
theorem d6_26 : decode method_3_code 26 = .ok (.getstatic 28, 3) := by decide +kernel
theorem d6_29 : decode method_3_code 29 = .ok (.areturn, 1) := by decide +kernel
theorem ef_6 (m : MethodId) (x0 : Int32) : entryFrame m #[(.int x0)] 1 = mkF m 0 #[.val (.int x0)] [] := by first | (simp [entryFrame, mkF, argsToLocals, Value.category]; done) | rfl
def f6 (p0 : Int32) (s_INT : Addr) (s_REAL : Addr) (s_BOOL : Addr) (s_STRING : Addr) : Addr := (if p0 = (0 : Int32) then s_INT else (if p0 = (1 : Int32) then s_REAL else (if p0 = (2 : Int32) then s_BOOL else s_STRING)))
def Q6 (Z : State) (p0 : Int32) (s_INT : Addr) (s_REAL : Addr) (s_BOOL : Addr) (s_STRING : Addr) (h0 : Heap) (n0 : Nat) (v : Option Value) (h : Heap) (L : List Loc) : Prop := v = some (.ref (f6 p0 s_INT s_REAL s_BOOL s_STRING)) ∧ Fr n0 L ∧ h = h0
set_option maxRecDepth 65536 in
set_option maxHeartbeats 40000000 in
theorem rm6 (l : Launch) (Z : State) (ar0 : Array Value) (hw : ∀ d ∈ tables_1, d.before ar0 Z = true) (ws : List Jvm.Cond) (p0 : Int32) (s_INT : Addr) (s_REAL : Addr) (s_BOOL : Addr) (s_STRING : Addr) (h0 : Heap) (n0 : Nat) (Z0 : n0 ≤ h0.size) (S_INT : Sta Z h0 "com/example/oversee/oversee/model/Sort" "INT" "Lcom/example/oversee/oversee/model/Sort;" (.ref s_INT)) (S_REAL : Sta Z h0 "com/example/oversee/oversee/model/Sort" "REAL" "Lcom/example/oversee/oversee/model/Sort;" (.ref s_REAL)) (S_BOOL : Sta Z h0 "com/example/oversee/oversee/model/Sort" "BOOL" "Lcom/example/oversee/oversee/model/Sort;" (.ref s_BOOL)) (S_STRING : Sta Z h0 "com/example/oversee/oversee/model/Sort" "STRING" "Lcom/example/oversee/oversee/model/Sort;" (.ref s_STRING)) :
    MetFree l (⟨"com/example/oversee/oversee/model/VariableEqualsPinLaw", "sortOf", "(I)Lcom/example/oversee/oversee/model/Sort;"⟩ : MethodName) (head1 (Jvm.Cond.code (⟨"com/example/oversee/oversee/model/VariableEqualsPinLaw", "sortOf", "(I)Lcom/example/oversee/oversee/model/Sort;"⟩ : MethodName) method_3_code 1 (some (.object "com/example/oversee/oversee/model/Sort")) :: ws) ({ frames := 0, cells := 0, slots := 0, locals := 0 } : Room)) (fun a U => a = #[(.int p0)] ∧ Z.Warmed39 U.vm ∧ U.heap = h0) (fun _ _ _ _ _ => True) (fun _ U o U' => ∃ v L, o = .returned v ∧ Q6 Z p0 s_INT s_REAL s_BOOL s_STRING h0 n0 v U'.heap L ∧ FrameEnd U o U' L ({ frames := 0, cells := 0, slots := 0, locals := 0 } : Room).cells ({ frames := 0, cells := 0, slots := 0, locals := 0 } : Room).slots) := by
  refine MetFree.of_bodySF (plainFor_of_name pn_2) hisR ?_
  intro p e s m args below meth c s₁ Bd hml0 hP hK
  obtain ⟨rfl, hZ, hh⟩ := hP
  have hx := Bd.exec
  have hby := Bd.bytes
  have hml : c.maxLocals = 1 := hml0
  have hown : s.vm.findClass "com/example/oversee/oversee/model/VariableEqualsPinLaw" = some m.cls := by have q := findClass_of_methodNamed Bd.named; exact q
  have hnm := (name_of_methodNamed Bd.named Bd.method).1
  have X0 : Stand p l e ({ frames := 0, cells := 0, slots := 0, locals := 0 } : Room) s m #[(.int p0)] below meth c s₁ [] 0 0 := Stand.of_body Bd
  have e0 : s₁.heap = h0 := by rw [← hh, Bd.state]; rfl
  have N0 := Fr.nil n0
  have pre0 : ∀ t, Steps p.tables e below (s₁.setTop (mkF m 0 #[.val (.int p0)] [])) t → Steps p.tables e below (s₁.setTop (entryFrame m #[(.int p0)] 1)) t := fun t k => castTop (ef_6 m p0) k
  have pre162 : ∀ t, Steps p.tables e below (s₁.setTop (mkF m 1 #[.val (.int p0)] [(.int p0)])) t → Steps p.tables e below (s₁.setTop (entryFrame m #[(.int p0)] 1)) t := by
    intro t k
    refine pre0 t ?_
    show Steps p.tables e below (s₁.setTop (mkF m 0 #[.val (.int p0)] [])) _
    refine XS.iloadN X0.here hx rfl (hb hby d6_0) rfl ?_
    exact k
  by_cases hc1_163 : p0 = (0 : Int32)
  · have pre164 : ∀ t, Steps p.tables e below (s₁.setTop (mkF m 4 #[.val (.int p0)] [])) t → Steps p.tables e below (s₁.setTop (entryFrame m #[(.int p0)] 1)) t := by
      intro t k
      refine pre162 t ?_
      show Steps p.tables e below (s₁.setTop (mkF m 1 #[.val (.int p0)] [(.int p0)])) _
      refine XS.ifNo X0.here hx rfl (hb hby d6_1) rfl ((if0 _ _).trans (teq hc1_163).2) ?_
      exact k
    obtain ⟨T165, X165, e165, st165⟩ := getS2 X0 hx hZ hown (host := "") (Or.inl (hw _ (List.mem_of_getElem? (i := 36) rfl))) Via.refl e0 S_INT (g := (mkF m 4 #[.val (.int p0)] [])) rfl (hb hby d6_4)
    have pre166 : ∀ t, Steps p.tables e below (T165.setTop (mkF m 7 #[.val (.int p0)] [(.ref s_INT)])) t → Steps p.tables e below (s₁.setTop (entryFrame m #[(.int p0)] 1)) t := fun t k => pre164 t (st165 t k)
    obtain ⟨fs, hr, hrun, hended, hW, hsame⟩ := X165.leave (v := some (.ref s_INT)) (fun h => by rw [Bd.returns] at h; cases h)
    refine ⟨_, _, pre166 _ ?_, hrun, hended, _, _, rfl, ?_, ⟨_, rfl⟩, hW, hsame.mono (by decide) (by decide)⟩
    · show Steps p.tables e below (T165.setTop (mkF m 7 #[.val (.int p0)] [(.ref s_INT)])) _
      exact retOut X165 hx Bd.returns rfl (Or.inr (Or.inr (Or.inr (Or.inr ⟨rfl, rfl, rfl⟩)))) (hb hby d6_7) hr
    · show Q6 Z p0 s_INT s_REAL s_BOOL s_STRING h0 n0 _ T165.heap _
      rw [e165]
      exact ⟨by unfold f6; rw [if_pos hc1_163], N0, rfl⟩
  · have pre167 : ∀ t, Steps p.tables e below (s₁.setTop (mkF m 10 #[.val (.int p0)] [(.int (1 : Int32)), (.int p0)])) t → Steps p.tables e below (s₁.setTop (entryFrame m #[(.int p0)] 1)) t := by
      intro t k
      refine pre162 t ?_
      show Steps p.tables e below (s₁.setTop (mkF m 1 #[.val (.int p0)] [(.int p0)])) _
      refine XS.ifYes X0.here hx rfl (pc0 := 1) (pc' := 8) rfl (hb hby d6_1) rfl ((if0 _ _).trans (feq hc1_163).2) (by decide) (by decide) ?_
      refine XS.iloadN X0.here hx rfl (hb hby d6_8) rfl ?_
      refine XS.iconst X0.here hx rfl (hb hby d6_9) ?_
      exact k
    by_cases hc10_168 : p0 = (1 : Int32)
    · have pre169 : ∀ t, Steps p.tables e below (s₁.setTop (mkF m 13 #[.val (.int p0)] [])) t → Steps p.tables e below (s₁.setTop (entryFrame m #[(.int p0)] 1)) t := by
        intro t k
        refine pre167 t ?_
        show Steps p.tables e below (s₁.setTop (mkF m 10 #[.val (.int p0)] [(.int (1 : Int32)), (.int p0)])) _
        refine XS.icmpNo X0.here hx rfl (hb hby d6_10) rfl (teq hc10_168).2 ?_
        exact k
      obtain ⟨T170, X170, e170, st170⟩ := getS2 X0 hx hZ hown (host := "") (Or.inl (hw _ (List.mem_of_getElem? (i := 76) rfl))) Via.refl e0 S_REAL (g := (mkF m 13 #[.val (.int p0)] [])) rfl (hb hby d6_13)
      have pre171 : ∀ t, Steps p.tables e below (T170.setTop (mkF m 16 #[.val (.int p0)] [(.ref s_REAL)])) t → Steps p.tables e below (s₁.setTop (entryFrame m #[(.int p0)] 1)) t := fun t k => pre169 t (st170 t k)
      obtain ⟨fs, hr, hrun, hended, hW, hsame⟩ := X170.leave (v := some (.ref s_REAL)) (fun h => by rw [Bd.returns] at h; cases h)
      refine ⟨_, _, pre171 _ ?_, hrun, hended, _, _, rfl, ?_, ⟨_, rfl⟩, hW, hsame.mono (by decide) (by decide)⟩
      · show Steps p.tables e below (T170.setTop (mkF m 16 #[.val (.int p0)] [(.ref s_REAL)])) _
        exact retOut X170 hx Bd.returns rfl (Or.inr (Or.inr (Or.inr (Or.inr ⟨rfl, rfl, rfl⟩)))) (hb hby d6_16) hr
      · show Q6 Z p0 s_INT s_REAL s_BOOL s_STRING h0 n0 _ T170.heap _
        rw [e170]
        exact ⟨by unfold f6; rw [if_neg hc1_163, if_pos hc10_168], N0, rfl⟩
    · have pre172 : ∀ t, Steps p.tables e below (s₁.setTop (mkF m 19 #[.val (.int p0)] [(.int (2 : Int32)), (.int p0)])) t → Steps p.tables e below (s₁.setTop (entryFrame m #[(.int p0)] 1)) t := by
        intro t k
        refine pre167 t ?_
        show Steps p.tables e below (s₁.setTop (mkF m 10 #[.val (.int p0)] [(.int (1 : Int32)), (.int p0)])) _
        refine XS.icmpYes X0.here hx rfl (pc0 := 10) (pc' := 17) rfl (hb hby d6_10) rfl (feq hc10_168).2 (by decide) (by decide) ?_
        refine XS.iloadN X0.here hx rfl (hb hby d6_17) rfl ?_
        refine XS.iconst X0.here hx rfl (hb hby d6_18) ?_
        exact k
      by_cases hc19_173 : p0 = (2 : Int32)
      · have pre174 : ∀ t, Steps p.tables e below (s₁.setTop (mkF m 22 #[.val (.int p0)] [])) t → Steps p.tables e below (s₁.setTop (entryFrame m #[(.int p0)] 1)) t := by
          intro t k
          refine pre172 t ?_
          show Steps p.tables e below (s₁.setTop (mkF m 19 #[.val (.int p0)] [(.int (2 : Int32)), (.int p0)])) _
          refine XS.icmpNo X0.here hx rfl (hb hby d6_19) rfl (teq hc19_173).2 ?_
          exact k
        obtain ⟨T175, X175, e175, st175⟩ := getS2 X0 hx hZ hown (host := "") (Or.inl (hw _ (List.mem_of_getElem? (i := 100) rfl))) Via.refl e0 S_BOOL (g := (mkF m 22 #[.val (.int p0)] [])) rfl (hb hby d6_22)
        have pre176 : ∀ t, Steps p.tables e below (T175.setTop (mkF m 25 #[.val (.int p0)] [(.ref s_BOOL)])) t → Steps p.tables e below (s₁.setTop (entryFrame m #[(.int p0)] 1)) t := fun t k => pre174 t (st175 t k)
        obtain ⟨fs, hr, hrun, hended, hW, hsame⟩ := X175.leave (v := some (.ref s_BOOL)) (fun h => by rw [Bd.returns] at h; cases h)
        refine ⟨_, _, pre176 _ ?_, hrun, hended, _, _, rfl, ?_, ⟨_, rfl⟩, hW, hsame.mono (by decide) (by decide)⟩
        · show Steps p.tables e below (T175.setTop (mkF m 25 #[.val (.int p0)] [(.ref s_BOOL)])) _
          exact retOut X175 hx Bd.returns rfl (Or.inr (Or.inr (Or.inr (Or.inr ⟨rfl, rfl, rfl⟩)))) (hb hby d6_25) hr
        · show Q6 Z p0 s_INT s_REAL s_BOOL s_STRING h0 n0 _ T175.heap _
          rw [e175]
          exact ⟨by unfold f6; rw [if_neg hc1_163, if_neg hc10_168, if_pos hc19_173], N0, rfl⟩
      · have pre177 : ∀ t, Steps p.tables e below (s₁.setTop (mkF m 26 #[.val (.int p0)] [])) t → Steps p.tables e below (s₁.setTop (entryFrame m #[(.int p0)] 1)) t := by
          intro t k
          refine pre172 t ?_
          show Steps p.tables e below (s₁.setTop (mkF m 19 #[.val (.int p0)] [(.int (2 : Int32)), (.int p0)])) _
          refine XS.icmpYes X0.here hx rfl (pc0 := 19) (pc' := 26) rfl (hb hby d6_19) rfl (feq hc19_173).2 (by decide) (by decide) ?_
          exact k
        obtain ⟨T178, X178, e178, st178⟩ := getS2 X0 hx hZ hown (host := "") (Or.inl (hw _ (List.mem_of_getElem? (i := 88) rfl))) Via.refl e0 S_STRING (g := (mkF m 26 #[.val (.int p0)] [])) rfl (hb hby d6_26)
        have pre179 : ∀ t, Steps p.tables e below (T178.setTop (mkF m 29 #[.val (.int p0)] [(.ref s_STRING)])) t → Steps p.tables e below (s₁.setTop (entryFrame m #[(.int p0)] 1)) t := fun t k => pre177 t (st178 t k)
        obtain ⟨fs, hr, hrun, hended, hW, hsame⟩ := X178.leave (v := some (.ref s_STRING)) (fun h => by rw [Bd.returns] at h; cases h)
        refine ⟨_, _, pre179 _ ?_, hrun, hended, _, _, rfl, ?_, ⟨_, rfl⟩, hW, hsame.mono (by decide) (by decide)⟩
        · show Steps p.tables e below (T178.setTop (mkF m 29 #[.val (.int p0)] [(.ref s_STRING)])) _
          exact retOut X178 hx Bd.returns rfl (Or.inr (Or.inr (Or.inr (Or.inr ⟨rfl, rfl, rfl⟩)))) (hb hby d6_29) hr
        · show Q6 Z p0 s_INT s_REAL s_BOOL s_STRING h0 n0 _ T178.heap _
          rw [e178]
          exact ⟨by unfold f6; rw [if_neg hc1_163, if_neg hc10_168, if_neg hc19_173], N0, rfl⟩
theorem own_dirE {Z : State} {h : Heap} {C : String} {s_INT s_REAL s_BOOL s_STRING : Addr} (p0 : Int32) (A_s_INT : Exa Z h s_INT C) (A_s_REAL : Exa Z h s_REAL C) (A_s_BOOL : Exa Z h s_BOOL C) (A_s_STRING : Exa Z h s_STRING C) : Exa Z h (f6 p0 s_INT s_REAL s_BOOL s_STRING) C := by
  unfold f6; repeat' split
  all_goals first | exact A_s_INT | exact A_s_REAL | exact A_s_BOOL | exact A_s_STRING
theorem pn_3 : plainName "java/util/Objects" = true := by first | (simp [plainName, overriddenIn]; done) | decide +kernel
theorem d8_0 : decode jdk_31_method_11_code 0 = .ok (.aload_n 0, 1) := by decide +kernel
theorem d8_1 : decode jdk_31_method_11_code 1 = .ok (.ifnonnull 12, 3) := by decide +kernel
theorem d8_13 : decode jdk_31_method_11_code 13 = .ok (.aload_n 0, 1) := by decide +kernel
theorem d8_14 : decode jdk_31_method_11_code 14 = .ok (.areturn, 1) := by decide +kernel
theorem ef_8 (m : MethodId) (x0 : Addr) (x1 : Addr) : entryFrame m #[(.ref x0), (.ref x1)] 2 = mkF m 0 #[.val (.ref x0), .val (.ref x1)] [] := by first | (simp [entryFrame, mkF, argsToLocals, Value.category]; done) | rfl
def Q8 (Z : State) (a0 : Addr) (a1 : Addr) (h0 : Heap) (n0 : Nat) (v : Option Value) (h : Heap) (L : List Loc) : Prop := v = some (.ref a0) ∧ Fr n0 L ∧ h = h0
set_option maxRecDepth 65536 in
set_option maxHeartbeats 40000000 in
theorem rm8 (l : Launch) (Z : State) (ar0 : Array Value) (hw : ∀ d ∈ tables_1, d.before ar0 Z = true) (ws : List Jvm.Cond) (a0 : Addr) (a1 : Addr) (h0 : Heap) (n0 : Nat) (Z0 : n0 ≤ h0.size) :
    MetFree l (⟨"java/util/Objects", "requireNonNull", "(Ljava/lang/Object;Ljava/lang/String;)Ljava/lang/Object;"⟩ : MethodName) (head1 (Jvm.Cond.code (⟨"java/util/Objects", "requireNonNull", "(Ljava/lang/Object;Ljava/lang/String;)Ljava/lang/Object;"⟩ : MethodName) jdk_31_method_11_code 2 (some (.object "java/lang/Object")) :: ws) ({ frames := 0, cells := 0, slots := 0, locals := 0 } : Room)) (fun a U => a = #[(.ref a0), (.ref a1)] ∧ Z.Warmed39 U.vm ∧ U.heap = h0) (fun _ _ _ _ _ => True) (fun _ U o U' => ∃ v L, o = .returned v ∧ Q8 Z a0 a1 h0 n0 v U'.heap L ∧ FrameEnd U o U' L ({ frames := 0, cells := 0, slots := 0, locals := 0 } : Room).cells ({ frames := 0, cells := 0, slots := 0, locals := 0 } : Room).slots) := by
  refine MetFree.of_bodySF (plainFor_of_name pn_3) hisR ?_
  intro p e s m args below meth c s₁ Bd hml0 hP hK
  obtain ⟨rfl, hZ, hh⟩ := hP
  have hx := Bd.exec
  have hby := Bd.bytes
  have hml : c.maxLocals = 2 := hml0
  have hown : s.vm.findClass "java/util/Objects" = some m.cls := by have q := findClass_of_methodNamed Bd.named; exact q
  have hnm := (name_of_methodNamed Bd.named Bd.method).1
  have X0 : Stand p l e ({ frames := 0, cells := 0, slots := 0, locals := 0 } : Room) s m #[(.ref a0), (.ref a1)] below meth c s₁ [] 0 0 := Stand.of_body Bd
  have e0 : s₁.heap = h0 := by rw [← hh, Bd.state]; rfl
  have N0 := Fr.nil n0
  have pre0 : ∀ t, Steps p.tables e below (s₁.setTop (mkF m 0 #[.val (.ref a0), .val (.ref a1)] [])) t → Steps p.tables e below (s₁.setTop (entryFrame m #[(.ref a0), (.ref a1)] 2)) t := fun t k => castTop (ef_8 m a0 a1) k
  obtain ⟨fs, hr, hrun, hended, hW, hsame⟩ := X0.leave (v := some (.ref a0)) (fun h => by rw [Bd.returns] at h; cases h)
  refine ⟨_, _, pre0 _ ?_, hrun, hended, _, _, rfl, ?_, ⟨_, rfl⟩, hW, hsame.mono (by decide) (by decide)⟩
  · show Steps p.tables e below (s₁.setTop (mkF m 0 #[.val (.ref a0), .val (.ref a1)] [])) _
    refine XS.aloadN X0.here hx rfl (hb hby d8_0) rfl rfl ?_
    refine XS.ifnonnullYes X0.here hx rfl (pc0 := 1) (pc' := 13) rfl (hb hby d8_1) rfl (by decide) (by decide) ?_
    refine XS.aloadN X0.here hx rfl (hb hby d8_13) rfl rfl ?_
    exact retOut X0 hx Bd.returns rfl (Or.inr (Or.inr (Or.inr (Or.inr ⟨rfl, rfl, rfl⟩)))) (hb hby d8_14) hr
  · show Q8 Z a0 a1 h0 n0 _ s₁.heap _
    rw [e0]
    exact ⟨rfl, N0, rfl⟩
theorem pd_6 : parseMethodDescriptor "(Ljava/lang/Object;Ljava/lang/String;)Ljava/lang/Object;" = some ⟨[(.object "java/lang/Object"), (.object "java/lang/String")], some (.object "java/lang/Object")⟩ := by decide +kernel
theorem pn_4 : plainName "com/example/oversee/oversee/model/Variable" = true := by first | (simp [plainName, overriddenIn]; done) | decide +kernel
theorem d7_0 : decode prog_34_method_1_code 0 = .ok (.aload_n 0, 1) := by decide +kernel
theorem d7_1 : decode prog_34_method_1_code 1 = .ok (.invokespecial 1, 3) := by decide +kernel
theorem d7_4 : decode prog_34_method_1_code 4 = .ok (.aload_n 0, 1) := by decide +kernel
theorem d7_5 : decode prog_34_method_1_code 5 = .ok (.aload_n 1, 1) := by decide +kernel
theorem d7_6 : decode prog_34_method_1_code 6 = .ok (.ldc 7, 2) := by decide +kernel
theorem d7_8 : decode prog_34_method_1_code 8 = .ok (.invokestatic 9, 3) := by decide +kernel
theorem d7_11 : decode prog_34_method_1_code 11 = .ok (.checkcast 15, 3) := by decide +kernel
theorem d7_14 : decode prog_34_method_1_code 14 = .ok (.putfield 17, 3) := by decide +kernel
theorem d7_17 : decode prog_34_method_1_code 17 = .ok (.aload_n 0, 1) := by decide +kernel
theorem d7_18 : decode prog_34_method_1_code 18 = .ok (.aload_n 2, 1) := by decide +kernel
theorem d7_19 : decode prog_34_method_1_code 19 = .ok (.ldc 22, 2) := by decide +kernel
theorem d7_21 : decode prog_34_method_1_code 21 = .ok (.invokestatic 9, 3) := by decide +kernel
theorem d7_24 : decode prog_34_method_1_code 24 = .ok (.checkcast 24, 3) := by decide +kernel
theorem d7_27 : decode prog_34_method_1_code 27 = .ok (.putfield 26, 3) := by decide +kernel
theorem d7_30 : decode prog_34_method_1_code 30 = .ok (.return_, 1) := by decide +kernel
theorem ef_7 (m : MethodId) (x0 : Addr) (x1 : Addr) (x2 : Addr) : entryFrame m #[(.ref x0), (.ref x1), (.ref x2)] 3 = mkF m 0 #[.val (.ref x0), .val (.ref x1), .val (.ref x2)] [] := by first | (simp [entryFrame, mkF, argsToLocals, Value.category]; done) | rfl
def Q7 (Z : State) (a0 : Addr) (a1 : Addr) (a2 : Addr) (w_name_a0 : Value) (w_sort_a0 : Value) (h0 : Heap) (n0 : Nat) (v : Option Value) (h : Heap) (L : List Loc) : Prop := v = none ∧ Fr n0 L ∧ Keep h0 h [a0] ∧ Exa Z h a0 "com/example/oversee/oversee/model/Variable" ∧ Fld Z h a0 "com/example/oversee/oversee/model/Variable" "name" "Ljava/lang/String;" (.ref a1) ∧ Fld Z h a0 "com/example/oversee/oversee/model/Variable" "sort" "Lcom/example/oversee/oversee/model/Sort;" (.ref a2)
set_option maxRecDepth 65536 in
set_option maxHeartbeats 40000000 in
theorem rm7 (l : Launch) (Z : State) (ar0 : Array Value) (hw : ∀ d ∈ tables_1, d.before ar0 Z = true) (ws : List Jvm.Cond) (a0 : Addr) (a1 : Addr) (a2 : Addr) (w_name_a0 : Value) (w_sort_a0 : Value) (h0 : Heap) (n0 : Nat) (Z0 : n0 ≤ h0.size) (E_a1 : Exa Z h0 a1 "java/lang/String") (E_a0 : Exa Z h0 a0 "com/example/oversee/oversee/model/Variable") (E_a2 : Exa Z h0 a2 "com/example/oversee/oversee/model/Sort") (F_name_a0 : Fld Z h0 a0 "com/example/oversee/oversee/model/Variable" "name" "Ljava/lang/String;" w_name_a0) (F_sort_a0 : Fld Z h0 a0 "com/example/oversee/oversee/model/Variable" "sort" "Lcom/example/oversee/oversee/model/Sort;" w_sort_a0) (g_a0 : n0 ≤ a0) :
    MetFree l (⟨"com/example/oversee/oversee/model/Variable", "<init>", "(Ljava/lang/String;Lcom/example/oversee/oversee/model/Sort;)V"⟩ : MethodName) (head1 (Jvm.Cond.code (⟨"com/example/oversee/oversee/model/Variable", "<init>", "(Ljava/lang/String;Lcom/example/oversee/oversee/model/Sort;)V"⟩ : MethodName) prog_34_method_1_code 3 none :: ws) ({ frames := 1, cells := 4, slots := 40, locals := 14 } : Room)) (fun a U => a = #[(.ref a0), (.ref a1), (.ref a2)] ∧ Z.Warmed39 U.vm ∧ U.heap = h0) (fun _ _ _ _ _ => True) (fun _ U o U' => ∃ v L, o = .returned v ∧ Q7 Z a0 a1 a2 w_name_a0 w_sort_a0 h0 n0 v U'.heap L ∧ ReturnedEndW U o U' L ({ frames := 1, cells := 4, slots := 40, locals := 14 } : Room).cells ({ frames := 1, cells := 4, slots := 40, locals := 14 } : Room).slots) := by
  refine MetFree.of_bodySF (plainFor_of_name pn_4) hisR ?_
  intro p e s m args below meth c s₁ Bd hml0 hP hK
  obtain ⟨rfl, hZ, hh⟩ := hP
  have hx := Bd.exec
  have hby := Bd.bytes
  have hml : c.maxLocals = 3 := hml0
  have hown : s.vm.findClass "com/example/oversee/oversee/model/Variable" = some m.cls := by have q := findClass_of_methodNamed Bd.named; exact q
  have hnm := (name_of_methodNamed Bd.named Bd.method).1
  have X0 : Stand p l e ({ frames := 1, cells := 4, slots := 40, locals := 14 } : Room) s m #[(.ref a0), (.ref a1), (.ref a2)] below meth c s₁ [] 0 0 := Stand.of_body Bd
  have e0 : s₁.heap = h0 := by rw [← hh, Bd.state]; rfl
  have N0 := Fr.nil n0
  have hS0 : s.Since s.vm 0 := own_since0 s
  have pre0 : ∀ t, Steps p.tables e below (s₁.setTop (mkF m 0 #[.val (.ref a0), .val (.ref a1), .val (.ref a2)] [])) t → Steps p.tables e below (s₁.setTop (entryFrame m #[(.ref a0), (.ref a1), (.ref a2)] 3)) t := fun t k => castTop (ef_7 m a0 a1 a2) k
  have pre180 : ∀ t, Steps p.tables e below (s₁.setTop (mkF m 1 #[.val (.ref a0), .val (.ref a1), .val (.ref a2)] [(.ref a0)])) t → Steps p.tables e below (s₁.setTop (entryFrame m #[(.ref a0), (.ref a1), (.ref a2)] 3)) t := by
    intro t k
    refine pre0 t ?_
    show Steps p.tables e below (s₁.setTop (mkF m 0 #[.val (.ref a0), .val (.ref a1), .val (.ref a2)] [])) _
    refine XS.aloadN X0.here hx rfl (hb hby d7_0) rfl rfl ?_
    exact k
  obtain ⟨T181, X181, e181, st181⟩ := initO X0 hx hZ hown (hw _ (List.mem_of_getElem? (i := 42) rfl)) (hw _ (List.mem_of_getElem? (i := 20) rfl)) (hw _ (List.mem_of_getElem? (i := 21) rfl)) e0 (g := (mkF m 1 #[.val (.ref a0), .val (.ref a1), .val (.ref a2)] [(.ref a0)])) rfl (by rw [hml]; rfl) rfl (hb hby d7_1) (by decide) (W := 0) (by show 2 * 0 + _ ≤ _; exact Nat.le_of_eq rfl) (by decide)
  have pre182 : ∀ t, Steps p.tables e below (T181.setTop (mkF m 4 #[.val (.ref a0), .val (.ref a1), .val (.ref a2)] [])) t → Steps p.tables e below (s₁.setTop (entryFrame m #[(.ref a0), (.ref a1), (.ref a2)] 3)) t := fun t k => pre180 t (st181 t k)
  have pre183 : ∀ t, Steps p.tables e below (T181.setTop (mkF m 6 #[.val (.ref a0), .val (.ref a1), .val (.ref a2)] [(.ref a1), (.ref a0)])) t → Steps p.tables e below (s₁.setTop (entryFrame m #[(.ref a0), (.ref a1), (.ref a2)] 3)) t := by
    intro t k
    refine pre182 t ?_
    show Steps p.tables e below (T181.setTop (mkF m 4 #[.val (.ref a0), .val (.ref a1), .val (.ref a2)] [])) _
    refine XS.aloadN X181.here hx rfl (hb hby d7_4) rfl rfl ?_
    refine XS.aloadN X181.here hx rfl (hb hby d7_5) rfl rfl ?_
    exact k
  obtain ⟨a184, T184, h184, k184, X184, e184, E184, hS184, hk184, hZ184, ho184, st184⟩ := ldcS (s := s) (vm0 := s.vm) X181 hx hZ hown (hw _ (List.mem_of_getElem? (i := 43) rfl)) (own_strW hw) e181 hS0 (Nat.zero_le _) (g := (mkF m 6 #[.val (.ref a0), .val (.ref a1), .val (.ref a2)] [(.ref a1), (.ref a0)])) rfl (hb hby d7_6) (n := 16) (by decide) (by decide) (by decide) (by decide)
  have Z184 : n0 ≤ h184.size := Nat.le_trans Z0 E184.1
  have K184 : Keep h0 h184 [a0] := (Keep.refl h0 [a0]).ext E184
  have Ef185 : Exa Z h184 a1 "java/lang/String" := (E_a1).ext E184
  have Ef186 : Exa Z h184 a0 "com/example/oversee/oversee/model/Variable" := (E_a0).ext E184
  have Ef187 : Exa Z h184 a2 "com/example/oversee/oversee/model/Sort" := (E_a2).ext E184
  have Ff188 : Fld Z h184 a0 "com/example/oversee/oversee/model/Variable" "name" "Ljava/lang/String;" w_name_a0 := (F_name_a0).ext E184
  have Ff189 : Fld Z h184 a0 "com/example/oversee/oversee/model/Variable" "sort" "Lcom/example/oversee/oversee/model/Sort;" w_sort_a0 := (F_sort_a0).ext E184
  have pre190 : ∀ t, Steps p.tables e below (T184.setTop (mkF m 8 #[.val (.ref a0), .val (.ref a1), .val (.ref a2)] [(.ref a184), (.ref a1), (.ref a0)])) t → Steps p.tables e below (s₁.setTop (entryFrame m #[(.ref a0), (.ref a1), (.ref a2)] 3)) t := fun t k => pre183 t (st184 t k)
  obtain ⟨_, _, ⟨T191, L191, k191, n191⟩, -, X191, ⟨Lc191, hQ191, l191, y191, z191⟩, st191⟩ := Jvm.LawKit.callS X184 hx (y := (⟨"java/util/Objects", "requireNonNull", "(Ljava/lang/Object;Ljava/lang/String;)Ljava/lang/Object;"⟩ : MethodName)) ho184 (mvT hZ184 (hw _ (List.mem_of_getElem? (i := 44) rfl))) (mvT hZ184 (hw _ (List.mem_of_getElem? (i := 45) rfl))) (mvT hZ184 (hw _ (List.mem_of_getElem? (i := 46) rfl))) (mvT hZ184 (hw _ (List.mem_of_getElem? (i := 47) rfl))) (by decide) (backOf (W := 1) (rm8 l Z ar0 hw [] a1 a184 h184 n0 Z184) hZ184 (hw _ (List.mem_of_getElem? (i := 47) rfl)) (hw _ (List.mem_of_getElem? (i := 46) rfl)) (by decide) (by decide)) (g := (mkF m 8 #[.val (.ref a0), .val (.ref a1), .val (.ref a2)] [(.ref a184), (.ref a1), (.ref a0)])) rfl (by rw [hml]; rfl) (argsL := [(.ref a1), (.ref a184)]) (rest := [(.ref a0)]) (lenOf pd_6 rfl) rfl (by show 2 * 0 + _ ≤ _; exact Nat.le_of_eq rfl) (hb hby d7_8) (fun _ _ => ⟨rfl, e184, (by decide : 2 + 0 ≤ _), (by decide : 20 + 0 ≤ _)⟩)
  dsimp only [Pt.U, Pt.locs, Pt.cells, Pt.slots] at X191 l191 y191 z191 st191 hQ191
  subst l191 y191 z191
  obtain ⟨rfl, N191q, e191⟩ := hQ191
  have N191 := Fr.app N0 N191q
  have pre192 : ∀ t, Steps p.tables e below (T191.setTop (mkF m 11 #[.val (.ref a0), .val (.ref a1), .val (.ref a2)] [(.ref a1), (.ref a0)])) t → Steps p.tables e below (s₁.setTop (entryFrame m #[(.ref a0), (.ref a1), (.ref a2)] 3)) t := fun t k => pre190 t (st191 t k)
  obtain ⟨T193, X193, e193, st193⟩ := castY X191 hx hZ184 ho184 (hw _ (List.mem_of_getElem? (i := 48) rfl)) e191 (Ins.self Ef185) (g := (mkF m 11 #[.val (.ref a0), .val (.ref a1), .val (.ref a2)] [(.ref a1), (.ref a0)])) rfl rfl (hb hby d7_11)
  have pre194 : ∀ t, Steps p.tables e below (T193.setTop (mkF m 14 #[.val (.ref a0), .val (.ref a1), .val (.ref a2)] [(.ref a1), (.ref a0)])) t → Steps p.tables e below (s₁.setTop (entryFrame m #[(.ref a0), (.ref a1), (.ref a2)] 3)) t := fun t k => pre192 t (st193 t k)
  obtain ⟨T195, h195, X195, e195, W195, st195⟩ := putF X193 hx hZ184 ho184 (host := "") (Or.inl (hw _ (List.mem_of_getElem? (i := 49) rfl))) Via.refl e193 Ff188 Ef186 (Or.inr ⟨(hw _ (List.mem_of_getElem? (i := 50) rfl)), rfl, hnm⟩) (hw _ (List.mem_of_getElem? (i := 31) rfl)) (ty := (.object "java/lang/String")) (by decide) rfl rfl (g := (mkF m 14 #[.val (.ref a0), .val (.ref a1), .val (.ref a2)] [(.ref a1), (.ref a0)])) rfl rfl (hb hby d7_14)
  have Z195 : n0 ≤ h195.size := Nat.le_trans Z184 (Keep.of_wr W195).1
  have K195 : Keep h0 h195 [a0] := K184.wr W195 (Or.inl (List.mem_of_getElem? (i := 0) rfl))
  have N195 := Fr.snoc X195 N191 g_a0
  have hk195 := Nat.le_trans hk184 (Keep.of_wr W195).1
  have Ef196 : Exa Z h195 a1 "java/lang/String" := (Ef185).wr W195
  have Ef197 : Exa Z h195 a0 "com/example/oversee/oversee/model/Variable" := (Ef186).wr W195
  have Ef198 : Exa Z h195 a2 "com/example/oversee/oversee/model/Sort" := (Ef187).wr W195
  have Ff199 : Fld Z h195 a0 "com/example/oversee/oversee/model/Variable" "sort" "Lcom/example/oversee/oversee/model/Sort;" w_sort_a0 := (Ff189).other W195 (Or.inr (slot_ne (Or.inr (hw _ (List.mem_of_getElem? (i := 55) rfl))) (Or.inr (hw _ (List.mem_of_getElem? (i := 50) rfl))) (by decide) (t := (.object "com/example/oversee/oversee/model/Sort")) (t' := (.object "java/lang/String")) (by decide) (by decide)))
  have Fw195 : Fld Z h195 a0 "com/example/oversee/oversee/model/Variable" "name" "Ljava/lang/String;" (.ref a1) := (Ff188).same W195
  have pre200 : ∀ t, Steps p.tables e below (T195.setTop (mkF m 17 #[.val (.ref a0), .val (.ref a1), .val (.ref a2)] [])) t → Steps p.tables e below (s₁.setTop (entryFrame m #[(.ref a0), (.ref a1), (.ref a2)] 3)) t := fun t k => pre194 t (st195 t k)
  have pre201 : ∀ t, Steps p.tables e below (T195.setTop (mkF m 19 #[.val (.ref a0), .val (.ref a1), .val (.ref a2)] [(.ref a2), (.ref a0)])) t → Steps p.tables e below (s₁.setTop (entryFrame m #[(.ref a0), (.ref a1), (.ref a2)] 3)) t := by
    intro t k
    refine pre200 t ?_
    show Steps p.tables e below (T195.setTop (mkF m 17 #[.val (.ref a0), .val (.ref a1), .val (.ref a2)] [])) _
    refine XS.aloadN X195.here hx rfl (hb hby d7_17) rfl rfl ?_
    refine XS.aloadN X195.here hx rfl (hb hby d7_18) rfl rfl ?_
    exact k
  obtain ⟨a202, T202, h202, k202, X202, e202, E202, hS202, hk202, hZ202, ho202, st202⟩ := ldcS (s := s) (vm0 := T184.vm) X195 hx hZ184 ho184 (hw _ (List.mem_of_getElem? (i := 51) rfl)) (own_strW hw) e195 hS184 hk195 (g := (mkF m 19 #[.val (.ref a0), .val (.ref a1), .val (.ref a2)] [(.ref a2), (.ref a0)])) rfl (hb hby d7_19) (n := 16) (by decide) (by decide) (by decide) (by decide)
  have Z202 : n0 ≤ h202.size := Nat.le_trans Z195 E202.1
  have K202 : Keep h0 h202 [a0] := K195.ext E202
  have Ef203 : Exa Z h202 a1 "java/lang/String" := (Ef196).ext E202
  have Ef204 : Exa Z h202 a0 "com/example/oversee/oversee/model/Variable" := (Ef197).ext E202
  have Ef205 : Exa Z h202 a2 "com/example/oversee/oversee/model/Sort" := (Ef198).ext E202
  have Ff206 : Fld Z h202 a0 "com/example/oversee/oversee/model/Variable" "sort" "Lcom/example/oversee/oversee/model/Sort;" w_sort_a0 := (Ff199).ext E202
  have Ff207 : Fld Z h202 a0 "com/example/oversee/oversee/model/Variable" "name" "Ljava/lang/String;" (.ref a1) := (Fw195).ext E202
  have pre208 : ∀ t, Steps p.tables e below (T202.setTop (mkF m 21 #[.val (.ref a0), .val (.ref a1), .val (.ref a2)] [(.ref a202), (.ref a2), (.ref a0)])) t → Steps p.tables e below (s₁.setTop (entryFrame m #[(.ref a0), (.ref a1), (.ref a2)] 3)) t := fun t k => pre201 t (st202 t k)
  obtain ⟨_, _, ⟨T209, L209, k209, n209⟩, -, X209, ⟨Lc209, hQ209, l209, y209, z209⟩, st209⟩ := Jvm.LawKit.callS X202 hx (y := (⟨"java/util/Objects", "requireNonNull", "(Ljava/lang/Object;Ljava/lang/String;)Ljava/lang/Object;"⟩ : MethodName)) ho202 (mvT hZ202 (hw _ (List.mem_of_getElem? (i := 44) rfl))) (mvT hZ202 (hw _ (List.mem_of_getElem? (i := 45) rfl))) (mvT hZ202 (hw _ (List.mem_of_getElem? (i := 46) rfl))) (mvT hZ202 (hw _ (List.mem_of_getElem? (i := 47) rfl))) (by decide) (backOf (W := 1) (rm8 l Z ar0 hw [] a2 a202 h202 n0 Z202) hZ202 (hw _ (List.mem_of_getElem? (i := 47) rfl)) (hw _ (List.mem_of_getElem? (i := 46) rfl)) (by decide) (by decide)) (g := (mkF m 21 #[.val (.ref a0), .val (.ref a1), .val (.ref a2)] [(.ref a202), (.ref a2), (.ref a0)])) rfl (by rw [hml]; rfl) (argsL := [(.ref a2), (.ref a202)]) (rest := [(.ref a0)]) (lenOf pd_6 rfl) rfl (by show 2 * 0 + _ ≤ _; exact Nat.le_of_eq rfl) (hb hby d7_21) (fun _ _ => ⟨rfl, e202, (by decide : 4 + 0 ≤ _), (by decide : 40 + 0 ≤ _)⟩)
  dsimp only [Pt.U, Pt.locs, Pt.cells, Pt.slots] at X209 l209 y209 z209 st209 hQ209
  subst l209 y209 z209
  obtain ⟨rfl, N209q, e209⟩ := hQ209
  have N209 := Fr.app N195 N209q
  have pre210 : ∀ t, Steps p.tables e below (T209.setTop (mkF m 24 #[.val (.ref a0), .val (.ref a1), .val (.ref a2)] [(.ref a2), (.ref a0)])) t → Steps p.tables e below (s₁.setTop (entryFrame m #[(.ref a0), (.ref a1), (.ref a2)] 3)) t := fun t k => pre208 t (st209 t k)
  obtain ⟨T211, X211, e211, st211⟩ := castY X209 hx hZ202 ho202 (hw _ (List.mem_of_getElem? (i := 52) rfl)) e209 (Ins.self Ef205) (g := (mkF m 24 #[.val (.ref a0), .val (.ref a1), .val (.ref a2)] [(.ref a2), (.ref a0)])) rfl rfl (hb hby d7_24)
  have pre212 : ∀ t, Steps p.tables e below (T211.setTop (mkF m 27 #[.val (.ref a0), .val (.ref a1), .val (.ref a2)] [(.ref a2), (.ref a0)])) t → Steps p.tables e below (s₁.setTop (entryFrame m #[(.ref a0), (.ref a1), (.ref a2)] 3)) t := fun t k => pre210 t (st211 t k)
  obtain ⟨T213, h213, X213, e213, W213, st213⟩ := putF X211 hx hZ202 ho202 (host := "") (Or.inl (hw _ (List.mem_of_getElem? (i := 54) rfl))) Via.refl e211 Ff206 Ef204 (Or.inr ⟨(hw _ (List.mem_of_getElem? (i := 55) rfl)), rfl, hnm⟩) (hw _ (List.mem_of_getElem? (i := 31) rfl)) (ty := (.object "com/example/oversee/oversee/model/Sort")) (by decide) rfl rfl (g := (mkF m 27 #[.val (.ref a0), .val (.ref a1), .val (.ref a2)] [(.ref a2), (.ref a0)])) rfl rfl (hb hby d7_27)
  have Z213 : n0 ≤ h213.size := Nat.le_trans Z202 (Keep.of_wr W213).1
  have K213 : Keep h0 h213 [a0] := K202.wr W213 (Or.inl (List.mem_of_getElem? (i := 0) rfl))
  have N213 := Fr.snoc X213 N209 g_a0
  have hk213 := Nat.le_trans hk202 (Keep.of_wr W213).1
  have Ef214 : Exa Z h213 a1 "java/lang/String" := (Ef203).wr W213
  have Ef215 : Exa Z h213 a0 "com/example/oversee/oversee/model/Variable" := (Ef204).wr W213
  have Ef216 : Exa Z h213 a2 "com/example/oversee/oversee/model/Sort" := (Ef205).wr W213
  have Ff217 : Fld Z h213 a0 "com/example/oversee/oversee/model/Variable" "name" "Ljava/lang/String;" (.ref a1) := (Ff207).other W213 (Or.inr (slot_ne (Or.inr (hw _ (List.mem_of_getElem? (i := 50) rfl))) (Or.inr (hw _ (List.mem_of_getElem? (i := 55) rfl))) (by decide) (t := (.object "java/lang/String")) (t' := (.object "com/example/oversee/oversee/model/Sort")) (by decide) (by decide)))
  have Fw213 : Fld Z h213 a0 "com/example/oversee/oversee/model/Variable" "sort" "Lcom/example/oversee/oversee/model/Sort;" (.ref a2) := (Ff206).same W213
  have pre218 : ∀ t, Steps p.tables e below (T213.setTop (mkF m 30 #[.val (.ref a0), .val (.ref a1), .val (.ref a2)] [])) t → Steps p.tables e below (s₁.setTop (entryFrame m #[(.ref a0), (.ref a1), (.ref a2)] 3)) t := fun t k => pre212 t (st213 t k)
  obtain ⟨fs, hr, hrun, hended, hRW⟩ := X213.leaveW (s := s) (vm₁ := T202.vm) hS202 (by rw [e213]; exact hk213) (v := none) (fun _ => rfl)
  refine ⟨_, _, pre218 _ ?_, hrun, hended, _, _, rfl, ?_, hRW.1, hRW.2.1, hRW.2.2.1, hRW.2.2.2.mono (by decide) (by decide)⟩
  · show Steps p.tables e below (T213.setTop (mkF m 30 #[.val (.ref a0), .val (.ref a1), .val (.ref a2)] [])) _
    exact X213.returnOut hx Bd.returns (hb hby d7_30) hr
  · show Q7 Z a0 a1 a2 w_name_a0 w_sort_a0 h0 n0 _ T213.heap _
    rw [e213]
    exact ⟨rfl, N213, K213, Ef215, Ff217, Fw213⟩
theorem d9_0 : decode prog_34_method_4_code 0 = .ok (.aload_n 0, 1) := by decide +kernel
theorem d9_1 : decode prog_34_method_4_code 1 = .ok (.aload_n 1, 1) := by decide +kernel
theorem d9_2 : decode prog_34_method_4_code 2 = .ok (.if_acmp .ne 5, 3) := by decide +kernel
theorem d9_5 : decode prog_34_method_4_code 5 = .ok (.iconst 1, 1) := by decide +kernel
theorem d9_6 : decode prog_34_method_4_code 6 = .ok (.ireturn, 1) := by decide +kernel
theorem ef_9_s (m : MethodId) (x0 : Addr) (x1 : Addr) : entryFrame m #[(.ref x1), (.ref x1)] 3 = mkF m 0 #[.val (.ref x1), .val (.ref x1), .unset] [] := by first | (simp [entryFrame, mkF, argsToLocals, Value.category]; done) | rfl
def Q9_s (Z : State) (a0 : Addr) (h0 : Heap) (n0 : Nat) (v : Option Value) (h : Heap) (L : List Loc) : Prop := v = some (.int (1 : Int32)) ∧ Fr n0 L ∧ h = h0
set_option maxRecDepth 65536 in
set_option maxHeartbeats 40000000 in
theorem rm9_s (l : Launch) (Z : State) (ar0 : Array Value) (hw : ∀ d ∈ tables_1, d.before ar0 Z = true) (ws : List Jvm.Cond) (a0 : Addr) (h0 : Heap) (n0 : Nat) (Z0 : n0 ≤ h0.size) :
    MetFree l (⟨"com/example/oversee/oversee/model/Variable", "equals", "(Ljava/lang/Object;)Z"⟩ : MethodName) (head1 (Jvm.Cond.code (⟨"com/example/oversee/oversee/model/Variable", "equals", "(Ljava/lang/Object;)Z"⟩ : MethodName) prog_34_method_4_code 3 (some .boolean) :: ws) ({ frames := 0, cells := 0, slots := 0, locals := 0 } : Room)) (fun a U => a = #[(.ref a0), (.ref a0)] ∧ Z.Warmed39 U.vm ∧ U.heap = h0) (fun _ _ _ _ _ => True) (fun _ U o U' => ∃ v L, o = .returned v ∧ Q9_s Z a0 h0 n0 v U'.heap L ∧ FrameEnd U o U' L ({ frames := 0, cells := 0, slots := 0, locals := 0 } : Room).cells ({ frames := 0, cells := 0, slots := 0, locals := 0 } : Room).slots) := by
  refine MetFree.of_bodySF (plainFor_of_name pn_4) hisR ?_
  intro p e s m args below meth c s₁ Bd hml0 hP hK
  obtain ⟨rfl, hZ, hh⟩ := hP
  have hx := Bd.exec
  have hby := Bd.bytes
  have hml : c.maxLocals = 3 := hml0
  have hown : s.vm.findClass "com/example/oversee/oversee/model/Variable" = some m.cls := by have q := findClass_of_methodNamed Bd.named; exact q
  have hnm := (name_of_methodNamed Bd.named Bd.method).1
  have X0 : Stand p l e ({ frames := 0, cells := 0, slots := 0, locals := 0 } : Room) s m #[(.ref a0), (.ref a0)] below meth c s₁ [] 0 0 := Stand.of_body Bd
  have e0 : s₁.heap = h0 := by rw [← hh, Bd.state]; rfl
  have N0 := Fr.nil n0
  have pre0 : ∀ t, Steps p.tables e below (s₁.setTop (mkF m 0 #[.val (.ref a0), .val (.ref a0), .unset] [])) t → Steps p.tables e below (s₁.setTop (entryFrame m #[(.ref a0), (.ref a0)] 3)) t := fun t k => castTop (ef_9_s m a0 a0) k
  obtain ⟨fs, hr, hrun, hended, hW, hsame⟩ := X0.leave (v := some (.int (1 : Int32))) (fun h => by rw [Bd.returns] at h; cases h)
  refine ⟨_, _, pre0 _ ?_, hrun, hended, _, _, rfl, ?_, ⟨_, rfl⟩, hW, hsame.mono (by decide) (by decide)⟩
  · show Steps p.tables e below (s₁.setTop (mkF m 0 #[.val (.ref a0), .val (.ref a0), .unset] [])) _
    refine XS.aloadN X0.here hx rfl (hb hby d9_0) rfl rfl ?_
    refine XS.aloadN X0.here hx rfl (hb hby d9_1) rfl rfl ?_
    refine Jvm.RoadKit.acmp (g := (mkF m 2 #[.val (.ref a0), .val (.ref a0), .unset] [(.ref a0), (.ref a0)])) X0 hx rfl rfl rfl (pc0 := 2) (pc' := 5) (same := true) rfl (hb hby d9_2) rfl (decide_eq_true rfl) (by decide) (by decide) ?_
    refine XS.iconst X0.here hx rfl (hb hby d9_5) ?_
    exact retN X0 hx (t := .boolean) Bd.returns (by simp) (hb hby d9_6) hr
  · show Q9_s Z a0 h0 n0 _ s₁.heap _
    rw [e0]
    exact ⟨rfl, N0, rfl⟩
theorem d9_7 : decode prog_34_method_4_code 7 = .ok (.aload_n 1, 1) := by decide +kernel
theorem d9_8 : decode prog_34_method_4_code 8 = .ok (.instanceof 18, 3) := by decide +kernel
theorem d9_11 : decode prog_34_method_4_code 11 = .ok (.ifCond .eq 11, 3) := by decide +kernel
theorem d9_22 : decode prog_34_method_4_code 22 = .ok (.iconst 0, 1) := by decide +kernel
theorem d9_23 : decode prog_34_method_4_code 23 = .ok (.ireturn, 1) := by decide +kernel
theorem ef_9_n (m : MethodId) (x0 : Addr) : entryFrame m #[(.ref x0), .null] 3 = mkF m 0 #[.val (.ref x0), .val .null, .unset] [] := by first | (simp [entryFrame, mkF, argsToLocals, Value.category]; done) | rfl
def Q9_n (Z : State) (a0 : Addr) (h0 : Heap) (n0 : Nat) (v : Option Value) (h : Heap) (L : List Loc) : Prop := v = some (.int (0 : Int32)) ∧ Fr n0 L ∧ h = h0
set_option maxRecDepth 65536 in
set_option maxHeartbeats 40000000 in
theorem rm9_n (l : Launch) (Z : State) (ar0 : Array Value) (hw : ∀ d ∈ tables_1, d.before ar0 Z = true) (ws : List Jvm.Cond) (a0 : Addr) (h0 : Heap) (n0 : Nat) (Z0 : n0 ≤ h0.size) :
    MetFree l (⟨"com/example/oversee/oversee/model/Variable", "equals", "(Ljava/lang/Object;)Z"⟩ : MethodName) (head1 (Jvm.Cond.code (⟨"com/example/oversee/oversee/model/Variable", "equals", "(Ljava/lang/Object;)Z"⟩ : MethodName) prog_34_method_4_code 3 (some .boolean) :: ws) ({ frames := 0, cells := 0, slots := 0, locals := 0 } : Room)) (fun a U => a = #[(.ref a0), .null] ∧ Z.Warmed39 U.vm ∧ U.heap = h0) (fun _ _ _ _ _ => True) (fun _ U o U' => ∃ v L, o = .returned v ∧ Q9_n Z a0 h0 n0 v U'.heap L ∧ FrameEnd U o U' L ({ frames := 0, cells := 0, slots := 0, locals := 0 } : Room).cells ({ frames := 0, cells := 0, slots := 0, locals := 0 } : Room).slots) := by
  refine MetFree.of_bodySF (plainFor_of_name pn_4) hisR ?_
  intro p e s m args below meth c s₁ Bd hml0 hP hK
  obtain ⟨rfl, hZ, hh⟩ := hP
  have hx := Bd.exec
  have hby := Bd.bytes
  have hml : c.maxLocals = 3 := hml0
  have hown : s.vm.findClass "com/example/oversee/oversee/model/Variable" = some m.cls := by have q := findClass_of_methodNamed Bd.named; exact q
  have hnm := (name_of_methodNamed Bd.named Bd.method).1
  have X0 : Stand p l e ({ frames := 0, cells := 0, slots := 0, locals := 0 } : Room) s m #[(.ref a0), .null] below meth c s₁ [] 0 0 := Stand.of_body Bd
  have e0 : s₁.heap = h0 := by rw [← hh, Bd.state]; rfl
  have N0 := Fr.nil n0
  have pre0 : ∀ t, Steps p.tables e below (s₁.setTop (mkF m 0 #[.val (.ref a0), .val .null, .unset] [])) t → Steps p.tables e below (s₁.setTop (entryFrame m #[(.ref a0), .null] 3)) t := fun t k => castTop (ef_9_n m a0) k
  have pre219 : ∀ t, Steps p.tables e below (s₁.setTop (mkF m 8 #[.val (.ref a0), .val .null, .unset] [.null])) t → Steps p.tables e below (s₁.setTop (entryFrame m #[(.ref a0), .null] 3)) t := by
    intro t k
    refine pre0 t ?_
    show Steps p.tables e below (s₁.setTop (mkF m 0 #[.val (.ref a0), .val .null, .unset] [])) _
    refine XS.aloadN X0.here hx rfl (hb hby d9_0) rfl rfl ?_
    refine XS.aloadN X0.here hx rfl (hb hby d9_1) rfl rfl ?_
    refine Jvm.RoadKit.acmp (g := (mkF m 2 #[.val (.ref a0), .val .null, .unset] [.null, (.ref a0)])) X0 hx rfl rfl rfl (pc0 := 2) (pc' := 7) (same := false) rfl (hb hby d9_2) rfl (decide_eq_false nofun) (by decide) (by decide) ?_
    refine XS.aloadN X0.here hx rfl (hb hby d9_7) rfl rfl ?_
    exact k
  obtain ⟨fs, hr, hrun, hended, hW, hsame⟩ := X0.leave (v := some (.int (0 : Int32))) (fun h => by rw [Bd.returns] at h; cases h)
  refine ⟨_, _, pre219 _ ?_, hrun, hended, _, _, rfl, ?_, ⟨_, rfl⟩, hW, hsame.mono (by decide) (by decide)⟩
  · show Steps p.tables e below (s₁.setTop (mkF m 8 #[.val (.ref a0), .val .null, .unset] [.null])) _
    refine X0.instanceofNull hx (g := (mkF m 8 #[.val (.ref a0), .val .null, .unset] [.null])) rfl rfl (hb hby d9_8) _ ?_
    refine XS.ifYes X0.here hx rfl (pc0 := 11) (pc' := 22) rfl (hb hby d9_11) rfl ((if0 _ _).trans (teq (by decide : (0 : Int32) = (0 : Int32))).1) (by decide) (by decide) ?_
    refine XS.iconst X0.here hx rfl (hb hby d9_22) ?_
    exact retN X0 hx (t := .boolean) Bd.returns (by simp) (hb hby d9_23) hr
  · show Q9_n Z a0 h0 n0 _ s₁.heap _
    rw [e0]
    exact ⟨rfl, N0, rfl⟩
theorem own_noinst {Z : State} {ar0 : Array Value} (hw : ∀ d ∈ tables_1, d.before ar0 Z = true) : ∃ c t, Z.vm.findClass "java/lang/String" = some c ∧ Z.vm.findClass "com/example/oversee/oversee/model/Variable" = some t ∧ Z.vm.assignable c t = false := by
  obtain ⟨t, kt, g1, g2, g3, g4, -, -⟩ := Cond.instantiable_spec (hw _ (List.mem_of_getElem? (i := 31) rfl))
  simp only [Bool.or_eq_false_iff] at g4
  have r0 : NS Z "java/lang/Object" "com/example/oversee/oversee/model/Variable" := by
    obtain ⟨c, k, h1, h2, h3, -, -⟩ := Cond.noSuperclass_spec (hw _ (List.mem_of_getElem? (i := 103) rfl))
    have ne := ids_ne h1 g1 (by decide)
    refine ⟨c, t, h1, g1, fun fuel => ?_⟩
    cases fuel with
    | zero => rfl
    | succ f => simp [Vm.isSubclassAux, ne, h2, h3]
  obtain ⟨c, t', h0, g0, n3⟩ : NS Z "java/lang/String" "com/example/oversee/oversee/model/Variable" := NS.step (hw _ (List.mem_of_getElem? (i := 102) rfl)) r0 (by decide)
  cases g1.symm.trans g0
  obtain ⟨p, k, kp, h1, h2, h3, h4, h5, -, h7⟩ := Cond.superclass_spec h0 (hw _ (List.mem_of_getElem? (i := 102) rfl))
  have ne := ids_ne h0 g0 (by decide)
  refine ⟨c, t, h0, g0, ?_⟩
  show Z.vm.assignableAux (255 + 1) c t = false
  simp [Vm.assignableAux, ne, h2, g2, h5, g3, g4.1, Vm.isSubclass, n3]
theorem ef_9 (m : MethodId) (x0 : Addr) (x1 : Addr) : entryFrame m #[(.ref x0), (.ref x1)] 3 = mkF m 0 #[.val (.ref x0), .val (.ref x1), .unset] [] := by first | (simp [entryFrame, mkF, argsToLocals, Value.category]; done) | rfl
def Q9_l (Z : State) (a0 : Addr) (a1 : Addr) (h0 : Heap) (n0 : Nat) (v : Option Value) (h : Heap) (L : List Loc) : Prop := v = some (.int (0 : Int32)) ∧ Fr n0 L ∧ h = h0
set_option maxRecDepth 65536 in
set_option maxHeartbeats 40000000 in
theorem rm9_l (l : Launch) (Z : State) (ar0 : Array Value) (hw : ∀ d ∈ tables_1, d.before ar0 Z = true) (ws : List Jvm.Cond) (a0 : Addr) (a1 : Addr) (h0 : Heap) (n0 : Nat) (Z0 : n0 ≤ h0.size) (ne_a0_a1 : a0 ≠ a1) (E_a1 : Exa Z h0 a1 "java/lang/String") :
    MetFree l (⟨"com/example/oversee/oversee/model/Variable", "equals", "(Ljava/lang/Object;)Z"⟩ : MethodName) (head1 (Jvm.Cond.code (⟨"com/example/oversee/oversee/model/Variable", "equals", "(Ljava/lang/Object;)Z"⟩ : MethodName) prog_34_method_4_code 3 (some .boolean) :: ws) ({ frames := 0, cells := 0, slots := 0, locals := 0 } : Room)) (fun a U => a = #[(.ref a0), (.ref a1)] ∧ Z.Warmed39 U.vm ∧ U.heap = h0) (fun _ _ _ _ _ => True) (fun _ U o U' => ∃ v L, o = .returned v ∧ Q9_l Z a0 a1 h0 n0 v U'.heap L ∧ FrameEnd U o U' L ({ frames := 0, cells := 0, slots := 0, locals := 0 } : Room).cells ({ frames := 0, cells := 0, slots := 0, locals := 0 } : Room).slots) := by
  refine MetFree.of_bodySF (plainFor_of_name pn_4) hisR ?_
  intro p e s m args below meth c s₁ Bd hml0 hP hK
  obtain ⟨rfl, hZ, hh⟩ := hP
  have hx := Bd.exec
  have hby := Bd.bytes
  have hml : c.maxLocals = 3 := hml0
  have hown : s.vm.findClass "com/example/oversee/oversee/model/Variable" = some m.cls := by have q := findClass_of_methodNamed Bd.named; exact q
  have hnm := (name_of_methodNamed Bd.named Bd.method).1
  have X0 : Stand p l e ({ frames := 0, cells := 0, slots := 0, locals := 0 } : Room) s m #[(.ref a0), (.ref a1)] below meth c s₁ [] 0 0 := Stand.of_body Bd
  have e0 : s₁.heap = h0 := by rw [← hh, Bd.state]; rfl
  have N0 := Fr.nil n0
  have pre0 : ∀ t, Steps p.tables e below (s₁.setTop (mkF m 0 #[.val (.ref a0), .val (.ref a1), .unset] [])) t → Steps p.tables e below (s₁.setTop (entryFrame m #[(.ref a0), (.ref a1)] 3)) t := fun t k => castTop (ef_9 m a0 a1) k
  have pre220 : ∀ t, Steps p.tables e below (s₁.setTop (mkF m 8 #[.val (.ref a0), .val (.ref a1), .unset] [(.ref a1)])) t → Steps p.tables e below (s₁.setTop (entryFrame m #[(.ref a0), (.ref a1)] 3)) t := by
    intro t k
    refine pre0 t ?_
    show Steps p.tables e below (s₁.setTop (mkF m 0 #[.val (.ref a0), .val (.ref a1), .unset] [])) _
    refine XS.aloadN X0.here hx rfl (hb hby d9_0) rfl rfl ?_
    refine XS.aloadN X0.here hx rfl (hb hby d9_1) rfl rfl ?_
    refine Jvm.RoadKit.acmp (g := (mkF m 2 #[.val (.ref a0), .val (.ref a1), .unset] [(.ref a1), (.ref a0)])) X0 hx rfl rfl rfl (pc0 := 2) (pc' := 7) (same := false) rfl (hb hby d9_2) rfl (decide_eq_false fun q => ne_a0_a1 (Value.ref.inj q)) (by decide) (by decide) ?_
    refine XS.aloadN X0.here hx rfl (hb hby d9_7) rfl rfl ?_
    exact k
  obtain ⟨T221, X221, e221, st221⟩ := instNo X0 hx hZ hown (hw _ (List.mem_of_getElem? (i := 90) rfl)) e0 E_a1 (own_noinst hw) (g := (mkF m 8 #[.val (.ref a0), .val (.ref a1), .unset] [(.ref a1)])) rfl rfl (hb hby d9_8)
  have pre222 : ∀ t, Steps p.tables e below (T221.setTop (mkF m 11 #[.val (.ref a0), .val (.ref a1), .unset] [(.int (0 : Int32))])) t → Steps p.tables e below (s₁.setTop (entryFrame m #[(.ref a0), (.ref a1)] 3)) t := fun t k => pre220 t (st221 t k)
  obtain ⟨fs, hr, hrun, hended, hW, hsame⟩ := X221.leave (v := some (.int (0 : Int32))) (fun h => by rw [Bd.returns] at h; cases h)
  refine ⟨_, _, pre222 _ ?_, hrun, hended, _, _, rfl, ?_, ⟨_, rfl⟩, hW, hsame.mono (by decide) (by decide)⟩
  · show Steps p.tables e below (T221.setTop (mkF m 11 #[.val (.ref a0), .val (.ref a1), .unset] [(.int (0 : Int32))])) _
    refine XS.ifYes X221.here hx rfl (pc0 := 11) (pc' := 22) rfl (hb hby d9_11) rfl ((if0 _ _).trans (teq (by decide : (0 : Int32) = (0 : Int32))).1) (by decide) (by decide) ?_
    refine XS.iconst X221.here hx rfl (hb hby d9_22) ?_
    exact retN X221 hx (t := .boolean) Bd.returns (by simp) (hb hby d9_23) hr
  · show Q9_l Z a0 a1 h0 n0 _ T221.heap _
    rw [e221]
    exact ⟨rfl, N0, rfl⟩
theorem pd_7 : parseMethodDescriptor "(Ljava/lang/Object;)Z" = some ⟨[(.object "java/lang/Object")], some .boolean⟩ := by decide +kernel
theorem d9_14 : decode prog_34_method_4_code 14 = .ok (.aload_n 1, 1) := by decide +kernel
theorem d9_15 : decode prog_34_method_4_code 15 = .ok (.checkcast 18, 3) := by decide +kernel
theorem d9_18 : decode prog_34_method_4_code 18 = .ok (.astore_n 2, 1) := by decide +kernel
theorem d9_19 : decode prog_34_method_4_code 19 = .ok (.goto 5, 3) := by decide +kernel
theorem d9_24 : decode prog_34_method_4_code 24 = .ok (.aload_n 0, 1) := by decide +kernel
theorem d9_25 : decode prog_34_method_4_code 25 = .ok (.getfield 17, 3) := by decide +kernel
theorem d9_28 : decode prog_34_method_4_code 28 = .ok (.aload_n 2, 1) := by decide +kernel
theorem d9_29 : decode prog_34_method_4_code 29 = .ok (.getfield 17, 3) := by decide +kernel
theorem d9_32 : decode prog_34_method_4_code 32 = .ok (.invokevirtual 29, 3) := by decide +kernel
theorem d9_35 : decode prog_34_method_4_code 35 = .ok (.ifCond .eq 18, 3) := by decide +kernel
theorem d9_38 : decode prog_34_method_4_code 38 = .ok (.aload_n 0, 1) := by decide +kernel
theorem d9_39 : decode prog_34_method_4_code 39 = .ok (.getfield 26, 3) := by decide +kernel
theorem d9_42 : decode prog_34_method_4_code 42 = .ok (.aload_n 2, 1) := by decide +kernel
theorem d9_43 : decode prog_34_method_4_code 43 = .ok (.getfield 26, 3) := by decide +kernel
theorem d9_46 : decode prog_34_method_4_code 46 = .ok (.if_acmp .ne 7, 3) := by decide +kernel
theorem d9_49 : decode prog_34_method_4_code 49 = .ok (.iconst 1, 1) := by decide +kernel
theorem d9_50 : decode prog_34_method_4_code 50 = .ok (.goto 4, 3) := by decide +kernel
theorem d9_53 : decode prog_34_method_4_code 53 = .ok (.iconst 0, 1) := by decide +kernel
theorem d9_54 : decode prog_34_method_4_code 54 = .ok (.ireturn, 1) := by decide +kernel
def f9_y (cs0 : List Int32) (cs1 : List Int32) (d0 : Addr) (d1 : Addr) : Int32 := (if (own_eq cs0 cs1) = (0 : Int32) then (0 : Int32) else (if d0 = d1 then (1 : Int32) else (0 : Int32)))
def Q9_y (Z : State) (a0 : Addr) (a1 : Addr) (cs0 : List Int32) (cs1 : List Int32) (gc1 : Int32) (d0 : Addr) (m0 : Addr) (tm0 : Addr) (k_tm0 : ClassId) (d1 : Addr) (m1 : Addr) (tm1 : Addr) (k_tm1 : ClassId) (h0 : Heap) (n0 : Nat) (v : Option Value) (h : Heap) (L : List Loc) : Prop := v = some (.int (f9_y cs0 cs1 d0 d1)) ∧ Fr n0 L ∧ h = h0
set_option maxRecDepth 65536 in
set_option maxHeartbeats 40000000 in
theorem rm9_y (l : Launch) (Z : State) (ar0 : Array Value) (hw : ∀ d ∈ tables_1, d.before ar0 Z = true) (ws : List Jvm.Cond) (a0 : Addr) (a1 : Addr) (cs0 : List Int32) (cs1 : List Int32) (gc1 : Int32) (d0 : Addr) (m0 : Addr) (tm0 : Addr) (k_tm0 : ClassId) (d1 : Addr) (m1 : Addr) (tm1 : Addr) (k_tm1 : ClassId) (h0 : Heap) (n0 : Nat) (Z0 : n0 ≤ h0.size) (P5 : ¬ (gc1 = (0 : Int32))) (hp0 : ∀ x ∈ cs0, ¬ x < 0 ∧ ¬ (255 : Int32) < x) (hl0 : cs0.length ≤ 4000) (hp1 : ∀ x ∈ cs1, ¬ x < 0 ∧ ¬ (255 : Int32) < x) (hl1 : cs1.length ≤ 4000) (S_COMPACT_STRINGS : Sta Z h0 "java/lang/String" "COMPACT_STRINGS" "Z" (.int gc1)) (E_a0 : Exa Z h0 a0 "com/example/oversee/oversee/model/Variable") (F_sort_a0 : Fld Z h0 a0 "com/example/oversee/oversee/model/Variable" "sort" "Lcom/example/oversee/oversee/model/Sort;" (.ref d0)) (F_name_a0 : Fld Z h0 a0 "com/example/oversee/oversee/model/Variable" "name" "Ljava/lang/String;" (.ref m0)) (E_m0 : Exa Z h0 m0 "java/lang/String") (F_value_m0 : Fld Z h0 m0 "java/lang/String" "value" "[B" (.ref tm0)) (F_coder_m0 : Fld Z h0 m0 "java/lang/String" "coder" "B" (.int (0 : Int32))) (B_tm0 : Arv Z h0 tm0 k_tm0 .byte (Int32.ofNat cs0.length) (((cs0 : List Int32).map (fun c => c.toInt8.toInt32)).map Value.int) (.int (0 : Int32))) (E_a1 : Exa Z h0 a1 "com/example/oversee/oversee/model/Variable") (F_sort_a1 : Fld Z h0 a1 "com/example/oversee/oversee/model/Variable" "sort" "Lcom/example/oversee/oversee/model/Sort;" (.ref d1)) (F_name_a1 : Fld Z h0 a1 "com/example/oversee/oversee/model/Variable" "name" "Ljava/lang/String;" (.ref m1)) (E_m1 : Exa Z h0 m1 "java/lang/String") (F_value_m1 : Fld Z h0 m1 "java/lang/String" "value" "[B" (.ref tm1)) (F_coder_m1 : Fld Z h0 m1 "java/lang/String" "coder" "B" (.int (0 : Int32))) (B_tm1 : Arv Z h0 tm1 k_tm1 .byte (Int32.ofNat cs1.length) (((cs1 : List Int32).map (fun c => c.toInt8.toInt32)).map Value.int) (.int (0 : Int32))) (ne_a0_a1 : a0 ≠ a1) :
    MetFree l (⟨"com/example/oversee/oversee/model/Variable", "equals", "(Ljava/lang/Object;)Z"⟩ : MethodName) (head1 (Jvm.Cond.code (⟨"com/example/oversee/oversee/model/Variable", "equals", "(Ljava/lang/Object;)Z"⟩ : MethodName) prog_34_method_4_code 3 (some .boolean) :: ws) ({ frames := 2, cells := 0, slots := 0, locals := 28 } : Room)) (fun a U => a = #[(.ref a0), (.ref a1)] ∧ Z.Warmed39 U.vm ∧ U.heap = h0) (fun _ _ _ _ _ => True) (fun _ U o U' => ∃ v L, o = .returned v ∧ Q9_y Z a0 a1 cs0 cs1 gc1 d0 m0 tm0 k_tm0 d1 m1 tm1 k_tm1 h0 n0 v U'.heap L ∧ FrameEnd U o U' L ({ frames := 2, cells := 0, slots := 0, locals := 28 } : Room).cells ({ frames := 2, cells := 0, slots := 0, locals := 28 } : Room).slots) := by
  refine MetFree.of_bodySF (plainFor_of_name pn_4) hisR ?_
  intro p e s m args below meth c s₁ Bd hml0 hP hK
  obtain ⟨rfl, hZ, hh⟩ := hP
  have hx := Bd.exec
  have hby := Bd.bytes
  have hml : c.maxLocals = 3 := hml0
  have hown : s.vm.findClass "com/example/oversee/oversee/model/Variable" = some m.cls := by have q := findClass_of_methodNamed Bd.named; exact q
  have hnm := (name_of_methodNamed Bd.named Bd.method).1
  have X0 : Stand p l e ({ frames := 2, cells := 0, slots := 0, locals := 28 } : Room) s m #[(.ref a0), (.ref a1)] below meth c s₁ [] 0 0 := Stand.of_body Bd
  have e0 : s₁.heap = h0 := by rw [← hh, Bd.state]; rfl
  have N0 := Fr.nil n0
  have pre0 : ∀ t, Steps p.tables e below (s₁.setTop (mkF m 0 #[.val (.ref a0), .val (.ref a1), .unset] [])) t → Steps p.tables e below (s₁.setTop (entryFrame m #[(.ref a0), (.ref a1)] 3)) t := fun t k => castTop (ef_9 m a0 a1) k
  have pre223 : ∀ t, Steps p.tables e below (s₁.setTop (mkF m 8 #[.val (.ref a0), .val (.ref a1), .unset] [(.ref a1)])) t → Steps p.tables e below (s₁.setTop (entryFrame m #[(.ref a0), (.ref a1)] 3)) t := by
    intro t k
    refine pre0 t ?_
    show Steps p.tables e below (s₁.setTop (mkF m 0 #[.val (.ref a0), .val (.ref a1), .unset] [])) _
    refine XS.aloadN X0.here hx rfl (hb hby d9_0) rfl rfl ?_
    refine XS.aloadN X0.here hx rfl (hb hby d9_1) rfl rfl ?_
    refine Jvm.RoadKit.acmp (g := (mkF m 2 #[.val (.ref a0), .val (.ref a1), .unset] [(.ref a1), (.ref a0)])) X0 hx rfl rfl rfl (pc0 := 2) (pc' := 7) (same := false) rfl (hb hby d9_2) rfl (decide_eq_false fun q => ne_a0_a1 (Value.ref.inj q)) (by decide) (by decide) ?_
    refine XS.aloadN X0.here hx rfl (hb hby d9_7) rfl rfl ?_
    exact k
  obtain ⟨T224, X224, e224, st224⟩ := instY X0 hx hZ hown (hw _ (List.mem_of_getElem? (i := 90) rfl)) e0 (Ins.self E_a1) (g := (mkF m 8 #[.val (.ref a0), .val (.ref a1), .unset] [(.ref a1)])) rfl rfl (hb hby d9_8)
  have pre225 : ∀ t, Steps p.tables e below (T224.setTop (mkF m 11 #[.val (.ref a0), .val (.ref a1), .unset] [(.int (1 : Int32))])) t → Steps p.tables e below (s₁.setTop (entryFrame m #[(.ref a0), (.ref a1)] 3)) t := fun t k => pre223 t (st224 t k)
  have pre226 : ∀ t, Steps p.tables e below (T224.setTop (mkF m 15 #[.val (.ref a0), .val (.ref a1), .unset] [(.ref a1)])) t → Steps p.tables e below (s₁.setTop (entryFrame m #[(.ref a0), (.ref a1)] 3)) t := by
    intro t k
    refine pre225 t ?_
    show Steps p.tables e below (T224.setTop (mkF m 11 #[.val (.ref a0), .val (.ref a1), .unset] [(.int (1 : Int32))])) _
    refine XS.ifNo X224.here hx rfl (hb hby d9_11) rfl ((if0 _ _).trans (feq (by decide : ¬ (1 : Int32) = (0 : Int32))).1) ?_
    refine XS.aloadN X224.here hx rfl (hb hby d9_14) rfl rfl ?_
    exact k
  obtain ⟨T227, X227, e227, st227⟩ := castY X224 hx hZ hown (hw _ (List.mem_of_getElem? (i := 90) rfl)) e224 (Ins.self E_a1) (g := (mkF m 15 #[.val (.ref a0), .val (.ref a1), .unset] [(.ref a1)])) rfl rfl (hb hby d9_15)
  have pre228 : ∀ t, Steps p.tables e below (T227.setTop (mkF m 18 #[.val (.ref a0), .val (.ref a1), .unset] [(.ref a1)])) t → Steps p.tables e below (s₁.setTop (entryFrame m #[(.ref a0), (.ref a1)] 3)) t := fun t k => pre226 t (st227 t k)
  have pre229 : ∀ t, Steps p.tables e below (T227.setTop (mkF m 25 #[.val (.ref a0), .val (.ref a1), .val (.ref a1)] [(.ref a0)])) t → Steps p.tables e below (s₁.setTop (entryFrame m #[(.ref a0), (.ref a1)] 3)) t := by
    intro t k
    refine pre228 t ?_
    show Steps p.tables e below (T227.setTop (mkF m 18 #[.val (.ref a0), .val (.ref a1), .unset] [(.ref a1)])) _
    refine XS.astoreN X227.here hx rfl (hb hby d9_18) rfl rfl (l' := #[.val (.ref a0), .val (.ref a1), .val (.ref a1)]) rfl ?_
    refine XS.goto X227.here hx rfl (pc0 := 19) (pc' := 24) rfl (hb hby d9_19) (by decide) (by decide) ?_
    refine XS.aloadN X227.here hx rfl (hb hby d9_24) rfl rfl ?_
    exact k
  obtain ⟨T230, X230, e230, st230⟩ := getF X227 hx hZ hown (host := "") (Or.inl (hw _ (List.mem_of_getElem? (i := 49) rfl))) Via.refl e227 F_name_a0 (g := (mkF m 25 #[.val (.ref a0), .val (.ref a1), .val (.ref a1)] [(.ref a0)])) rfl rfl (hb hby d9_25)
  have pre231 : ∀ t, Steps p.tables e below (T230.setTop (mkF m 28 #[.val (.ref a0), .val (.ref a1), .val (.ref a1)] [(.ref m0)])) t → Steps p.tables e below (s₁.setTop (entryFrame m #[(.ref a0), (.ref a1)] 3)) t := fun t k => pre229 t (st230 t k)
  have pre232 : ∀ t, Steps p.tables e below (T230.setTop (mkF m 29 #[.val (.ref a0), .val (.ref a1), .val (.ref a1)] [(.ref a1), (.ref m0)])) t → Steps p.tables e below (s₁.setTop (entryFrame m #[(.ref a0), (.ref a1)] 3)) t := by
    intro t k
    refine pre231 t ?_
    show Steps p.tables e below (T230.setTop (mkF m 28 #[.val (.ref a0), .val (.ref a1), .val (.ref a1)] [(.ref m0)])) _
    refine XS.aloadN X230.here hx rfl (hb hby d9_28) rfl rfl ?_
    exact k
  obtain ⟨T233, X233, e233, st233⟩ := getF X230 hx hZ hown (host := "") (Or.inl (hw _ (List.mem_of_getElem? (i := 49) rfl))) Via.refl e230 F_name_a1 (g := (mkF m 29 #[.val (.ref a0), .val (.ref a1), .val (.ref a1)] [(.ref a1), (.ref m0)])) rfl rfl (hb hby d9_29)
  have pre234 : ∀ t, Steps p.tables e below (T233.setTop (mkF m 32 #[.val (.ref a0), .val (.ref a1), .val (.ref a1)] [(.ref m1), (.ref m0)])) t → Steps p.tables e below (s₁.setTop (entryFrame m #[(.ref a0), (.ref a1)] 3)) t := fun t k => pre232 t (st233 t k)
  obtain ⟨cq235, kq235, q235a, q235b, q235c⟩ := isOf hZ e233 E_m0
  obtain ⟨_, _, ⟨T235, L235, k235, n235⟩, -, X235, ⟨Lc235, hQ235, l235, y235, z235⟩, st235⟩ := X233.virtualBack hx (y := (⟨"java/lang/String", "equals", "(Ljava/lang/Object;)Z"⟩ : MethodName)) (z := (⟨"java/lang/String", "equals", "(Ljava/lang/Object;)Z"⟩ : MethodName)) hown (mvT hZ (hw _ (List.mem_of_getElem? (i := 92) rfl))) (mvT hZ (hw _ (List.mem_of_getElem? (i := 93) rfl))) (notFace_of_selects (args := #[]) (mvT hZ (hw _ (List.mem_of_getElem? (i := 95) rfl)))) (mvT hZ (hw _ (List.mem_of_getElem? (i := 95) rfl))) (mvT hZ (hw _ (List.mem_of_getElem? (i := 94) rfl))) (by decide) (StrChars.Road.eqW (W := 0) hZ (own_wordsEq hw) (kI := 4) (hw _ (List.mem_of_getElem? (i := 9) rfl)) E_m0 F_value_m0 F_coder_m0 B_tm0 (own_hcdG hp0) (own_up _ hp0) hl0 E_m1 F_value_m1 F_coder_m1 B_tm1 (own_hcdG hp1) (own_up _ hp1) hl1 S_COMPACT_STRINGS P5 (by decide) (by decide)) q235a q235c (g := (mkF m 32 #[.val (.ref a0), .val (.ref a1), .val (.ref a1)] [(.ref m1), (.ref m0)])) rfl (by rw [hml]; rfl) (Steps.refl _) (argsL := [(.ref m1)]) (rest := []) (lenOf pd_7 rfl) rfl (by show 2 * 0 + _ ≤ _; exact Nat.le_of_eq rfl) (hb hby d9_32) (fun _ _ => ⟨rfl, e233, (by decide : 0 + 0 ≤ _), (by decide : 0 + 0 ≤ _)⟩)
  dsimp only [Pt.U, Pt.locs, Pt.cells, Pt.slots] at X235 l235 y235 z235 st235 hQ235
  subst l235 y235 z235
  obtain ⟨q235, rfl, e235⟩ := hQ235
  obtain rfl := own_eqv q235
  try rw [List.append_nil] at X235
  have pre236 : ∀ t, Steps p.tables e below (T235.setTop (mkF m 35 #[.val (.ref a0), .val (.ref a1), .val (.ref a1)] [(.int (own_eq cs0 cs1))])) t → Steps p.tables e below (s₁.setTop (entryFrame m #[(.ref a0), (.ref a1)] 3)) t := fun t k => pre234 t (st235.trans k)
  by_cases hc35_237 : (own_eq cs0 cs1) = (0 : Int32)
  · obtain ⟨fs, hr, hrun, hended, hW, hsame⟩ := X235.leave (v := some (.int (0 : Int32))) (fun h => by rw [Bd.returns] at h; cases h)
    refine ⟨_, _, pre236 _ ?_, hrun, hended, _, _, rfl, ?_, ⟨_, rfl⟩, hW, hsame.mono (by decide) (by decide)⟩
    · show Steps p.tables e below (T235.setTop (mkF m 35 #[.val (.ref a0), .val (.ref a1), .val (.ref a1)] [(.int (own_eq cs0 cs1))])) _
      refine XS.ifYes X235.here hx rfl (pc0 := 35) (pc' := 53) rfl (hb hby d9_35) rfl ((if0 _ _).trans (teq hc35_237).1) (by decide) (by decide) ?_
      refine XS.iconst X235.here hx rfl (hb hby d9_53) ?_
      exact retN X235 hx (t := .boolean) Bd.returns (by simp) (hb hby d9_54) hr
    · show Q9_y Z a0 a1 cs0 cs1 gc1 d0 m0 tm0 k_tm0 d1 m1 tm1 k_tm1 h0 n0 _ T235.heap _
      rw [e235]
      exact ⟨by unfold f9_y; rw [if_pos hc35_237], N0, rfl⟩
  · have pre238 : ∀ t, Steps p.tables e below (T235.setTop (mkF m 39 #[.val (.ref a0), .val (.ref a1), .val (.ref a1)] [(.ref a0)])) t → Steps p.tables e below (s₁.setTop (entryFrame m #[(.ref a0), (.ref a1)] 3)) t := by
      intro t k
      refine pre236 t ?_
      show Steps p.tables e below (T235.setTop (mkF m 35 #[.val (.ref a0), .val (.ref a1), .val (.ref a1)] [(.int (own_eq cs0 cs1))])) _
      refine XS.ifNo X235.here hx rfl (hb hby d9_35) rfl ((if0 _ _).trans (feq hc35_237).1) ?_
      refine XS.aloadN X235.here hx rfl (hb hby d9_38) rfl rfl ?_
      exact k
    obtain ⟨T239, X239, e239, st239⟩ := getF X235 hx hZ hown (host := "") (Or.inl (hw _ (List.mem_of_getElem? (i := 54) rfl))) Via.refl e235 F_sort_a0 (g := (mkF m 39 #[.val (.ref a0), .val (.ref a1), .val (.ref a1)] [(.ref a0)])) rfl rfl (hb hby d9_39)
    have pre240 : ∀ t, Steps p.tables e below (T239.setTop (mkF m 42 #[.val (.ref a0), .val (.ref a1), .val (.ref a1)] [(.ref d0)])) t → Steps p.tables e below (s₁.setTop (entryFrame m #[(.ref a0), (.ref a1)] 3)) t := fun t k => pre238 t (st239 t k)
    have pre241 : ∀ t, Steps p.tables e below (T239.setTop (mkF m 43 #[.val (.ref a0), .val (.ref a1), .val (.ref a1)] [(.ref a1), (.ref d0)])) t → Steps p.tables e below (s₁.setTop (entryFrame m #[(.ref a0), (.ref a1)] 3)) t := by
      intro t k
      refine pre240 t ?_
      show Steps p.tables e below (T239.setTop (mkF m 42 #[.val (.ref a0), .val (.ref a1), .val (.ref a1)] [(.ref d0)])) _
      refine XS.aloadN X239.here hx rfl (hb hby d9_42) rfl rfl ?_
      exact k
    obtain ⟨T242, X242, e242, st242⟩ := getF X239 hx hZ hown (host := "") (Or.inl (hw _ (List.mem_of_getElem? (i := 54) rfl))) Via.refl e239 F_sort_a1 (g := (mkF m 43 #[.val (.ref a0), .val (.ref a1), .val (.ref a1)] [(.ref a1), (.ref d0)])) rfl rfl (hb hby d9_43)
    have pre243 : ∀ t, Steps p.tables e below (T242.setTop (mkF m 46 #[.val (.ref a0), .val (.ref a1), .val (.ref a1)] [(.ref d1), (.ref d0)])) t → Steps p.tables e below (s₁.setTop (entryFrame m #[(.ref a0), (.ref a1)] 3)) t := fun t k => pre241 t (st242 t k)
    by_cases hc46_244 : d0 = d1
    · obtain ⟨fs, hr, hrun, hended, hW, hsame⟩ := X242.leave (v := some (.int (1 : Int32))) (fun h => by rw [Bd.returns] at h; cases h)
      refine ⟨_, _, pre243 _ ?_, hrun, hended, _, _, rfl, ?_, ⟨_, rfl⟩, hW, hsame.mono (by decide) (by decide)⟩
      · show Steps p.tables e below (T242.setTop (mkF m 46 #[.val (.ref a0), .val (.ref a1), .val (.ref a1)] [(.ref d1), (.ref d0)])) _
        refine Jvm.RoadKit.acmp (g := (mkF m 46 #[.val (.ref a0), .val (.ref a1), .val (.ref a1)] [(.ref d1), (.ref d0)])) X242 hx rfl rfl rfl (pc0 := 46) (pc' := 49) (same := true) rfl (hb hby d9_46) rfl (decide_eq_true (congrArg Value.ref hc46_244)) (by decide) (by decide) ?_
        refine XS.iconst X242.here hx rfl (hb hby d9_49) ?_
        refine XS.goto X242.here hx rfl (pc0 := 50) (pc' := 54) rfl (hb hby d9_50) (by decide) (by decide) ?_
        exact retN X242 hx (t := .boolean) Bd.returns (by simp) (hb hby d9_54) hr
      · show Q9_y Z a0 a1 cs0 cs1 gc1 d0 m0 tm0 k_tm0 d1 m1 tm1 k_tm1 h0 n0 _ T242.heap _
        rw [e242]
        exact ⟨by unfold f9_y; rw [if_neg hc35_237, if_pos hc46_244], N0, rfl⟩
    · obtain ⟨fs, hr, hrun, hended, hW, hsame⟩ := X242.leave (v := some (.int (0 : Int32))) (fun h => by rw [Bd.returns] at h; cases h)
      refine ⟨_, _, pre243 _ ?_, hrun, hended, _, _, rfl, ?_, ⟨_, rfl⟩, hW, hsame.mono (by decide) (by decide)⟩
      · show Steps p.tables e below (T242.setTop (mkF m 46 #[.val (.ref a0), .val (.ref a1), .val (.ref a1)] [(.ref d1), (.ref d0)])) _
        refine Jvm.RoadKit.acmp (g := (mkF m 46 #[.val (.ref a0), .val (.ref a1), .val (.ref a1)] [(.ref d1), (.ref d0)])) X242 hx rfl rfl rfl (pc0 := 46) (pc' := 53) (same := false) rfl (hb hby d9_46) rfl (decide_eq_false fun q => hc46_244 (Value.ref.inj q)) (by decide) (by decide) ?_
        refine XS.iconst X242.here hx rfl (hb hby d9_53) ?_
        exact retN X242 hx (t := .boolean) Bd.returns (by simp) (hb hby d9_54) hr
      · show Q9_y Z a0 a1 cs0 cs1 gc1 d0 m0 tm0 k_tm0 d1 m1 tm1 k_tm1 h0 n0 _ T242.heap _
        rw [e242]
        exact ⟨by unfold f9_y; rw [if_neg hc35_237, if_neg hc46_244], N0, rfl⟩
theorem own_rg1 {v z : Int32} (h : v = ((z &&& (255 : Int32)).toUInt32.toUInt16.toUInt32.toInt32)) : own_R v := by
  have e1 : (z &&& 255).toInt = z.toInt % 2 ^ 8 := Jvm.Kit.i32_mask z 255 (k := 8) (by decide) (by decide)
  obtain ⟨k, e⟩ := own_small 256 (by decide) (z &&& 255) (by omega) (by omega)
  have d : ∀ k : Fin 256, own_R ((Int32.ofNat k).toUInt32.toUInt16.toUInt32.toInt32) := by decide +kernel
  rw [h, e]; exact d k
theorem own_rg2 {v z w : Int32} {c : Prop} [Decidable c] (h : v = if c then ((z &&& (255 : Int32)).toUInt32.toUInt16.toUInt32.toInt32) else w) (hw : own_R w) : own_R v := by
  by_cases q : c
  · rw [if_pos q] at h; exact own_rg1 h
  · rw [if_neg q] at h; rw [h]; exact hw
theorem own_q1 {p v : Int32} (hv : v = (p &&& (3 : Int32))) : v = 0 ∨ v = 1 ∨ v = 2 ∨ v = 3 := by
  have e0 : (0 : Int32).toInt = 0 := by decide
  have e1 : (1 : Int32).toInt = 1 := by decide
  have e2 : (2 : Int32).toInt = 2 := by decide
  have e3 : (3 : Int32).toInt = 3 := by decide
  have m : (p &&& 3).toInt = p.toInt % 2 ^ 2 := Jvm.Kit.i32_mask p 3 (k := 2) (by decide) (by decide)
  simp only [← Int32.toInt_inj, e0, e1, e2, e3]
  rw [hv, m]
  omega
theorem own_q2 {p v w : Int32} {c : Prop} [Decidable c] (h : v = if c then (p &&& (3 : Int32)) else w) (hw : w = 0 ∨ w = 1 ∨ w = 2 ∨ w = 3) : v = 0 ∨ v = 1 ∨ v = 2 ∨ v = 3 := by
  by_cases q : c
  · rw [if_pos q] at h; exact own_q1 h
  · rw [if_neg q] at h; rw [h]; exact hw
theorem own_m1 {p v : Int32} (hv : v = (f1 (p &&& (3 : Int32)) (2 : Int32))) : v = 0 ∨ v = 1 ∨ v = 2 := by
  rw [hv]
  rcases own_q1 (p := p) rfl with e | e | e | e <;> rw [e] <;> decide
theorem own_m2 {p v w : Int32} {c : Prop} [Decidable c] (h : v = if c then (f1 (p &&& (3 : Int32)) (2 : Int32)) else w) (hw : w = 0 ∨ w = 1 ∨ w = 2) : v = 0 ∨ v = 1 ∨ v = 2 := by
  by_cases q : c
  · rw [if_pos q] at h; exact own_m1 h
  · rw [if_neg q] at h; rw [h]; exact hw
theorem own_oo {a b c d o o' : Addr} {s s' : Int32} (h1 : a ≠ b) (h2 : a ≠ c) (h3 : a ≠ d) (h4 : b ≠ c) (h5 : b ≠ d) (h6 : c ≠ d) (hs : s = 0 ∨ s = 1 ∨ s = 2 ∨ s = 3) (hs' : s' = 0 ∨ s' = 1 ∨ s' = 2 ∨ s' = 3) (ho : o = f6 s a b c d) (ho' : o' = f6 s' a b c d) : o = o' ↔ s = s' := by
  have z0 : f6 0 a b c d = a := rfl
  have z1 : f6 1 a b c d = b := rfl
  have z2 : f6 2 a b c d = c := rfl
  have z3 : f6 3 a b c d = d := rfl
  rw [ho, ho']
  constructor
  · intro q
    rcases hs with rfl | rfl | rfl | rfl <;> rcases hs' with rfl | rfl | rfl | rfl <;> first | rfl | (exfalso; simp only [z0, z1, z2, z3] at q; first | exact h1 q | exact h2 q | exact h3 q | exact h4 q | exact h5 q | exact h6 q | exact h1 q.symm | exact h2 q.symm | exact h3 q.symm | exact h4 q.symm | exact h5 q.symm | exact h6 q.symm)
  · intro q; rw [q]
theorem own_sym (x y : List Int32) (o o' : Addr) : f9_y x y o o' = f9_y y x o' o := by
  unfold f9_y own_eq
  by_cases h : x = y
  · subst h
    by_cases k : o = o'
    · subst k; rfl
    · rw [if_neg k, if_neg (Ne.symm k)]
  · rw [if_neg h, if_neg (Ne.symm h), if_pos rfl, if_pos rfl]
theorem own_key {n c d n' c' d' s s' : Int32} {o o' : Addr} (hn : n = 0 ∨ n = 1 ∨ n = 2) (hn' : n' = 0 ∨ n' = 1 ∨ n' = 2) (ho : o = o' ↔ s = s') :
    f9_y (own_cs n c d) (own_cs n' c' d') o o' = (if n = n' then (if n < (1 : Int32) then (if n < (2 : Int32) then (if s = s' then (1 : Int32) else (0 : Int32)) else (if d = d' then (if s = s' then (1 : Int32) else (0 : Int32)) else (0 : Int32))) else (if c = c' then (if n < (2 : Int32) then (if s = s' then (1 : Int32) else (0 : Int32)) else (if d = d' then (if s = s' then (1 : Int32) else (0 : Int32)) else (0 : Int32))) else (0 : Int32))) else (0 : Int32)) := by
  have c0 : ∀ x y : Int32, own_cs 0 x y = [] := fun _ _ => rfl
  have c1 : ∀ x y : Int32, own_cs 1 x y = [x] := fun _ _ => rfl
  have c2 : ∀ x y : Int32, own_cs 2 x y = [x, y] := fun _ _ => rfl
  have l1 : ((0 : Int32) < 1) = True := by decide
  have l2 : ((0 : Int32) < 2) = True := by decide
  have l3 : ((1 : Int32) < 1) = False := by decide
  have l4 : ((1 : Int32) < 2) = True := by decide
  have l5 : ((2 : Int32) < 1) = False := by decide
  have l6 : ((2 : Int32) < 2) = False := by decide
  have k1 : ((1 : Int32) = 0) = False := by decide
  have k2 : ((0 : Int32) = 1) = False := by decide
  have k3 : ((0 : Int32) = 2) = False := by decide
  have k4 : ((1 : Int32) = 2) = False := by decide
  have k5 : ((2 : Int32) = 0) = False := by decide
  have k6 : ((2 : Int32) = 1) = False := by decide
  have hO : (o = o') = (s = s') := propext ho
  unfold f9_y own_eq
  rcases hn with rfl | rfl | rfl <;> rcases hn' with rfl | rfl | rfl <;> simp only [c0, c1, c2, l1, l2, l3, l4, l5, l6, k1, k2, k3, k4, k5, k6, hO, if_true, if_false, List.cons.injEq, and_true, reduceCtorEq, and_false] <;> first | rfl | (by_cases q : c = c' <;> by_cases r : d = d' <;> simp [q, r, k1])

theorem pd_8 : parseMethodDescriptor "(II)I" = some ⟨[.int, .int], some .int⟩ := by decide +kernel
theorem pd_9 : parseMethodDescriptor "(ICC)Ljava/lang/String;" = some ⟨[.int, .char, .char], some (.object "java/lang/String")⟩ := by decide +kernel
theorem pd_10 : parseMethodDescriptor "(I)Lcom/example/oversee/oversee/model/Sort;" = some ⟨[.int], some (.object "com/example/oversee/oversee/model/Sort")⟩ := by decide +kernel
theorem pd_11 : parseMethodDescriptor "(Ljava/lang/String;Lcom/example/oversee/oversee/model/Sort;)V" = some ⟨[(.object "java/lang/String"), (.object "com/example/oversee/oversee/model/Sort")], none⟩ := by decide +kernel
theorem ef_0 (m : MethodId) (x0 : Int32) (x1 : Int32) (x2 : Int32) : entryFrame m #[(.int x0), (.int x1), (.int x2)] maxLocals = mkF m 0 #[.val (.int x0), .val (.int x1), .val (.int x2), .unset, .unset, .unset, .unset, .unset, .unset, .unset, .unset, .unset, .unset, .unset, .unset, .unset, .unset] [] := by first | (simp [entryFrame, mkF, argsToLocals, Value.category, maxLocals]; done) | rfl
def Q0 (Z : State) (p0 : Int32) (p1 : Int32) (p2 : Int32) (gc1 : Int32) (s_INT : Addr) (s_REAL : Addr) (s_BOOL : Addr) (s_STRING : Addr) (h0 : Heap) (n0 : Nat) (v : Option Value) (h : Heap) (L : List Loc) : Prop := v = some (.int 1) ∧ Fr n0 L
theorem own_leaf1 {p0 : Int32} {p1 : Int32} {p2 : Int32} {gc1 : Int32} {s_INT : Addr} {s_REAL : Addr} {s_BOOL : Addr} {s_STRING : Addr} {v248 : Int32} {v251 : Int32} {v254 : Int32} {v260 : Int32} {v266 : Int32} {v274 : Int32} {v278 : Int32} {v284 : Int32} {v287 : Int32} {o340 : Addr} {o390 : Addr} {v466 : Int32} (hne_BOOL_STRING : s_BOOL ≠ s_STRING) (hne_REAL_STRING : s_REAL ≠ s_STRING) (hne_REAL_BOOL : s_REAL ≠ s_BOOL) (hne_INT_STRING : s_INT ≠ s_STRING) (hne_INT_BOOL : s_INT ≠ s_BOOL) (hne_INT_REAL : s_INT ≠ s_REAL) (P5 : ¬ (gc1 = (0 : Int32))) (hv248 : v248 = (f1 (p0 &&& (3 : Int32)) (2 : Int32))) (hv251 : v251 = ((((p0.toUInt32 >>> ((2 : Int32) &&& 31).toUInt32).toInt32) &&& (255 : Int32)).toUInt32.toUInt16.toUInt32.toInt32)) (hv254 : v254 = ((((p0.toUInt32 >>> ((10 : Int32) &&& 31).toUInt32).toInt32) &&& (255 : Int32)).toUInt32.toUInt16.toUInt32.toInt32)) (hv260 : v260 = (if (p2 &&& (1 : Int32)) = (0 : Int32) then ((p1 &&& (255 : Int32)).toUInt32.toUInt16.toUInt32.toInt32) else v251)) (hv266 : v266 = (if (p2 &&& (2 : Int32)) = (0 : Int32) then ((((p1.toUInt32 >>> ((8 : Int32) &&& 31).toUInt32).toInt32) &&& (255 : Int32)).toUInt32.toUInt16.toUInt32.toInt32) else v254)) (hv274 : v274 = (if (p2 &&& (4 : Int32)) = (0 : Int32) then (f1 (((p1.toUInt32 >>> ((16 : Int32) &&& 31).toUInt32).toInt32) &&& (3 : Int32)) (2 : Int32)) else v248)) (hv278 : v278 = (((p2.toUInt32 >>> ((3 : Int32) &&& 31).toUInt32).toInt32) &&& (3 : Int32))) (hv284 : v284 = (if (p2 &&& (32 : Int32)) = (0 : Int32) then (((p2.toUInt32 >>> ((6 : Int32) &&& 31).toUInt32).toInt32) &&& (3 : Int32)) else v278)) (hv287 : v287 = (((p2.toUInt32 >>> ((8 : Int32) &&& 31).toUInt32).toInt32) &&& (3 : Int32))) (ho340 : o340 = (f6 v278 s_INT s_REAL s_BOOL s_STRING)) (ho390 : o390 = (f6 v284 s_INT s_REAL s_BOOL s_STRING)) (hc182_418 : ¬ (v287 = (0 : Int32))) (hc196_423 : ¬ (v287 = (1 : Int32))) (hc217_428 : ¬ (v287 = (2 : Int32))) (hv466 : v466 = (if v248 = v274 then (if v248 < (1 : Int32) then (if v248 < (2 : Int32) then (if v278 = v284 then (1 : Int32) else (0 : Int32)) else (if v254 = v266 then (if v278 = v284 then (1 : Int32) else (0 : Int32)) else (0 : Int32))) else (if v251 = v260 then (if v248 < (2 : Int32) then (if v278 = v284 then (1 : Int32) else (0 : Int32)) else (if v254 = v266 then (if v278 = v284 then (1 : Int32) else (0 : Int32)) else (0 : Int32))) else (0 : Int32))) else (0 : Int32))) (hc289_472 : (f9_y (own_cs v248 v251 v254) (own_cs v274 v260 v266) o340 o390) = v466) (hc301_477 : ¬ ((f9_y (own_cs v274 v260 v266) (own_cs v248 v251 v254) o390 o340) = v466)) : False := by
  exact hc301_477 (by rw [own_sym]; exact hc289_472)
theorem own_leaf2 {p0 : Int32} {p1 : Int32} {p2 : Int32} {gc1 : Int32} {s_INT : Addr} {s_REAL : Addr} {s_BOOL : Addr} {s_STRING : Addr} {v248 : Int32} {v251 : Int32} {v254 : Int32} {v260 : Int32} {v266 : Int32} {v274 : Int32} {v278 : Int32} {v284 : Int32} {v287 : Int32} {o340 : Addr} {o390 : Addr} {v466 : Int32} (hne_BOOL_STRING : s_BOOL ≠ s_STRING) (hne_REAL_STRING : s_REAL ≠ s_STRING) (hne_REAL_BOOL : s_REAL ≠ s_BOOL) (hne_INT_STRING : s_INT ≠ s_STRING) (hne_INT_BOOL : s_INT ≠ s_BOOL) (hne_INT_REAL : s_INT ≠ s_REAL) (P5 : ¬ (gc1 = (0 : Int32))) (hv248 : v248 = (f1 (p0 &&& (3 : Int32)) (2 : Int32))) (hv251 : v251 = ((((p0.toUInt32 >>> ((2 : Int32) &&& 31).toUInt32).toInt32) &&& (255 : Int32)).toUInt32.toUInt16.toUInt32.toInt32)) (hv254 : v254 = ((((p0.toUInt32 >>> ((10 : Int32) &&& 31).toUInt32).toInt32) &&& (255 : Int32)).toUInt32.toUInt16.toUInt32.toInt32)) (hv260 : v260 = (if (p2 &&& (1 : Int32)) = (0 : Int32) then ((p1 &&& (255 : Int32)).toUInt32.toUInt16.toUInt32.toInt32) else v251)) (hv266 : v266 = (if (p2 &&& (2 : Int32)) = (0 : Int32) then ((((p1.toUInt32 >>> ((8 : Int32) &&& 31).toUInt32).toInt32) &&& (255 : Int32)).toUInt32.toUInt16.toUInt32.toInt32) else v254)) (hv274 : v274 = (if (p2 &&& (4 : Int32)) = (0 : Int32) then (f1 (((p1.toUInt32 >>> ((16 : Int32) &&& 31).toUInt32).toInt32) &&& (3 : Int32)) (2 : Int32)) else v248)) (hv278 : v278 = (((p2.toUInt32 >>> ((3 : Int32) &&& 31).toUInt32).toInt32) &&& (3 : Int32))) (hv284 : v284 = (if (p2 &&& (32 : Int32)) = (0 : Int32) then (((p2.toUInt32 >>> ((6 : Int32) &&& 31).toUInt32).toInt32) &&& (3 : Int32)) else v278)) (hv287 : v287 = (((p2.toUInt32 >>> ((8 : Int32) &&& 31).toUInt32).toInt32) &&& (3 : Int32))) (ho340 : o340 = (f6 v278 s_INT s_REAL s_BOOL s_STRING)) (ho390 : o390 = (f6 v284 s_INT s_REAL s_BOOL s_STRING)) (hc182_418 : ¬ (v287 = (0 : Int32))) (hc196_423 : ¬ (v287 = (1 : Int32))) (hc217_428 : ¬ (v287 = (2 : Int32))) (hv466 : v466 = (if v248 = v274 then (if v248 < (1 : Int32) then (if v248 < (2 : Int32) then (if v278 = v284 then (1 : Int32) else (0 : Int32)) else (if v254 = v266 then (if v278 = v284 then (1 : Int32) else (0 : Int32)) else (0 : Int32))) else (if v251 = v260 then (if v248 < (2 : Int32) then (if v278 = v284 then (1 : Int32) else (0 : Int32)) else (if v254 = v266 then (if v278 = v284 then (1 : Int32) else (0 : Int32)) else (0 : Int32))) else (0 : Int32))) else (0 : Int32))) (hc289_472 : ¬ ((f9_y (own_cs v248 v251 v254) (own_cs v274 v260 v266) o340 o390) = v466)) : False := by
  exact hc289_472 (by rw [hv466]; exact own_key (own_m1 hv248) (own_m2 hv274 (own_m1 hv248)) (own_oo hne_INT_REAL hne_INT_BOOL hne_INT_STRING hne_REAL_BOOL hne_REAL_STRING hne_BOOL_STRING (own_q1 hv278) (own_q2 hv284 (own_q1 hv278)) ho340 ho390))
set_option maxRecDepth 65536 in
set_option maxHeartbeats 40000000 in
theorem rm0 (l : Launch) (Z : State) (ar0 : Array Value) (hw : ∀ d ∈ tables_1, d.before ar0 Z = true) (ws : List Jvm.Cond) (p0 : Int32) (p1 : Int32) (p2 : Int32) (gc1 : Int32) (s_INT : Addr) (s_REAL : Addr) (s_BOOL : Addr) (s_STRING : Addr) (h0 : Heap) (n0 : Nat) (Z0 : n0 ≤ h0.size) (P5 : ¬ (gc1 = (0 : Int32))) (hne_INT_REAL : s_INT ≠ s_REAL) (hne_INT_BOOL : s_INT ≠ s_BOOL) (hne_INT_STRING : s_INT ≠ s_STRING) (hne_REAL_BOOL : s_REAL ≠ s_BOOL) (hne_REAL_STRING : s_REAL ≠ s_STRING) (hne_BOOL_STRING : s_BOOL ≠ s_STRING) (S_COMPACT_STRINGS : Sta Z h0 "java/lang/String" "COMPACT_STRINGS" "Z" (.int gc1)) (S_INT : Sta Z h0 "com/example/oversee/oversee/model/Sort" "INT" "Lcom/example/oversee/oversee/model/Sort;" (.ref s_INT)) (S_REAL : Sta Z h0 "com/example/oversee/oversee/model/Sort" "REAL" "Lcom/example/oversee/oversee/model/Sort;" (.ref s_REAL)) (S_BOOL : Sta Z h0 "com/example/oversee/oversee/model/Sort" "BOOL" "Lcom/example/oversee/oversee/model/Sort;" (.ref s_BOOL)) (S_STRING : Sta Z h0 "com/example/oversee/oversee/model/Sort" "STRING" "Lcom/example/oversee/oversee/model/Sort;" (.ref s_STRING)) (E_s_INT : Exa Z h0 s_INT "com/example/oversee/oversee/model/Sort") (E_s_REAL : Exa Z h0 s_REAL "com/example/oversee/oversee/model/Sort") (E_s_BOOL : Exa Z h0 s_BOOL "com/example/oversee/oversee/model/Sort") (E_s_STRING : Exa Z h0 s_STRING "com/example/oversee/oversee/model/Sort") :
    MetFree l x (head1 (Jvm.Cond.code x code maxLocals ret :: ws) room_1) (fun a U => a = #[(.int p0), (.int p1), (.int p2)] ∧ Z.Warmed39 U.vm ∧ U.heap = h0 ∧ CHv Z own_EL U.vm h0) (fun _ _ _ _ _ => True) (fun _ U o U' => ∃ v L, o = .returned v ∧ Q0 Z p0 p1 p2 gc1 s_INT s_REAL s_BOOL s_STRING h0 n0 v U'.heap L ∧ ReturnedEndW U o U' L room_1.cells room_1.slots) := by
  refine MetFree.of_bodySF (plainFor_of_name pn_2) hisR ?_
  intro p e s m args below meth c s₁ Bd hml0 hP hK
  obtain ⟨rfl, hZ, hh, hC0⟩ := hP
  have hx := Bd.exec
  have hby := Bd.bytes
  have hml : c.maxLocals = 17 := hml0
  have hown : s.vm.findClass "com/example/oversee/oversee/model/VariableEqualsPinLaw" = some m.cls := by have q := findClass_of_methodNamed Bd.named; exact q
  have hnm := (name_of_methodNamed Bd.named Bd.method).1
  have X0 : Stand p l e room_1 s m #[(.int p0), (.int p1), (.int p2)] below meth c s₁ [] 0 0 := Stand.of_body Bd
  have e0 : s₁.heap = h0 := by rw [← hh, Bd.state]; rfl
  have N0 := Fr.nil n0
  have hS0 : s.Since s.vm 0 := own_since0 s
  have hCR0 : CHr Z own_EL s.vm h0 s.vm h0 := CHr.refl hC0
  have hEL : EW Z ar0 own_EL := own_EW hw
  have pre0 : ∀ t, Steps p.tables e below (s₁.setTop (mkF m 0 #[.val (.int p0), .val (.int p1), .val (.int p2), .unset, .unset, .unset, .unset, .unset, .unset, .unset, .unset, .unset, .unset, .unset, .unset, .unset, .unset] [])) t → Steps p.tables e below (s₁.setTop (entryFrame m #[(.int p0), (.int p1), (.int p2)] maxLocals)) t := fun t k => castTop (ef_0 m p0 p1 p2) k
  have pre245 : ∀ t, Steps p.tables e below (s₁.setTop (mkF m 4 #[.val (.int p0), .val (.int p1), .val (.int p2), .unset, .unset, .unset, .unset, .unset, .unset, .unset, .unset, .unset, .unset, .unset, .unset, .unset, .unset] [(.int (2 : Int32)), (.int (p0 &&& (3 : Int32)))])) t → Steps p.tables e below (s₁.setTop (entryFrame m #[(.int p0), (.int p1), (.int p2)] maxLocals)) t := by
    intro t k
    refine pre0 t ?_
    show Steps p.tables e below (s₁.setTop (mkF m 0 #[.val (.int p0), .val (.int p1), .val (.int p2), .unset, .unset, .unset, .unset, .unset, .unset, .unset, .unset, .unset, .unset, .unset, .unset, .unset, .unset] [])) _
    refine XS.iloadN X0.here hx rfl (hb hby at_0) rfl ?_
    refine XS.iconst X0.here hx rfl (hb hby at_1) ?_
    refine XS.iand X0.here hx rfl (hb hby at_2) rfl ?_
    refine XS.iconst X0.here hx rfl (hb hby at_3) ?_
    exact k
  obtain ⟨_, _, ⟨T246, L246, k246, n246⟩, -, X246, ⟨Lc246, hQ246, l246, y246, z246⟩, st246⟩ := Jvm.LawKit.callS X0 hx (y := (⟨"java/lang/Math", "min", "(II)I"⟩ : MethodName)) hown (mvT hZ (hw _ (List.mem_of_getElem? (i := 0) rfl))) (mvT hZ (hw _ (List.mem_of_getElem? (i := 1) rfl))) (mvT hZ (hw _ (List.mem_of_getElem? (i := 2) rfl))) (mvT hZ (hw _ (List.mem_of_getElem? (i := 3) rfl))) (by decide) (backOf (W := 0) (rm1 l Z ar0 hw [] (p0 &&& (3 : Int32)) (2 : Int32) h0 n0 Z0) hZ (hw _ (List.mem_of_getElem? (i := 3) rfl)) (hw _ (List.mem_of_getElem? (i := 2) rfl)) (by decide) (by decide)) (g := (mkF m 4 #[.val (.int p0), .val (.int p1), .val (.int p2), .unset, .unset, .unset, .unset, .unset, .unset, .unset, .unset, .unset, .unset, .unset, .unset, .unset, .unset] [(.int (2 : Int32)), (.int (p0 &&& (3 : Int32)))])) rfl (by rw [hml]; rfl) (argsL := [(.int (p0 &&& (3 : Int32))), (.int (2 : Int32))]) (rest := []) (lenOf pd_8 rfl) rfl (by show 2 * 0 + _ ≤ _; exact Nat.le_of_eq rfl) (hb hby at_4) (fun _ _ => ⟨rfl, e0, (by decide : 0 + 0 ≤ _), (by decide : 0 + 0 ≤ _)⟩)
  dsimp only [Pt.U, Pt.locs, Pt.cells, Pt.slots] at X246 l246 y246 z246 st246 hQ246
  subst l246 y246 z246
  obtain ⟨rfl, N246q, e246⟩ := hQ246
  have N246 := Fr.app N0 N246q
  have pre247 : ∀ t, Steps p.tables e below (T246.setTop (mkF m 7 #[.val (.int p0), .val (.int p1), .val (.int p2), .unset, .unset, .unset, .unset, .unset, .unset, .unset, .unset, .unset, .unset, .unset, .unset, .unset, .unset] [(.int (f1 (p0 &&& (3 : Int32)) (2 : Int32)))])) t → Steps p.tables e below (s₁.setTop (entryFrame m #[(.int p0), (.int p1), (.int p2)] maxLocals)) t := fun t k => pre245 t (st246 t k)
  obtain ⟨v248, hv248⟩ : ∃ z : Int32, z = (f1 (p0 &&& (3 : Int32)) (2 : Int32)) := ⟨_, rfl⟩
  have pre249 : ∀ t, Steps p.tables e below (T246.setTop (mkF m 7 #[.val (.int p0), .val (.int p1), .val (.int p2), .unset, .unset, .unset, .unset, .unset, .unset, .unset, .unset, .unset, .unset, .unset, .unset, .unset, .unset] [(.int v248)])) t → Steps p.tables e below (s₁.setTop (entryFrame m #[(.int p0), (.int p1), (.int p2)] maxLocals)) t := by rw [hv248]; exact pre247
  have pre250 : ∀ t, Steps p.tables e below (T246.setTop (mkF m 16 #[.val (.int p0), .val (.int p1), .val (.int p2), .val (.int v248), .unset, .unset, .unset, .unset, .unset, .unset, .unset, .unset, .unset, .unset, .unset, .unset, .unset] [(.int ((((p0.toUInt32 >>> ((2 : Int32) &&& 31).toUInt32).toInt32) &&& (255 : Int32)).toUInt32.toUInt16.toUInt32.toInt32))])) t → Steps p.tables e below (s₁.setTop (entryFrame m #[(.int p0), (.int p1), (.int p2)] maxLocals)) t := by
    intro t k
    refine pre249 t ?_
    show Steps p.tables e below (T246.setTop (mkF m 7 #[.val (.int p0), .val (.int p1), .val (.int p2), .unset, .unset, .unset, .unset, .unset, .unset, .unset, .unset, .unset, .unset, .unset, .unset, .unset, .unset] [(.int v248)])) _
    refine XS.istoreN X246.here hx rfl (hb hby at_7) rfl (l' := #[.val (.int p0), .val (.int p1), .val (.int p2), .val (.int v248), .unset, .unset, .unset, .unset, .unset, .unset, .unset, .unset, .unset, .unset, .unset, .unset, .unset]) rfl ?_
    refine XS.iloadN X246.here hx rfl (hb hby at_8) rfl ?_
    refine XS.iconst X246.here hx rfl (hb hby at_9) ?_
    refine XS.iushr X246.here hx rfl (hb hby at_10) rfl ?_
    refine XS.sipush X246.here hx rfl (hb hby at_11) ?_
    refine XS.iand X246.here hx rfl (hb hby at_14) rfl ?_
    refine XS.i2c X246.here hx rfl (hb hby at_15) rfl ?_
    exact k
  obtain ⟨v251, hv251⟩ : ∃ z : Int32, z = ((((p0.toUInt32 >>> ((2 : Int32) &&& 31).toUInt32).toInt32) &&& (255 : Int32)).toUInt32.toUInt16.toUInt32.toInt32) := ⟨_, rfl⟩
  have pre252 : ∀ t, Steps p.tables e below (T246.setTop (mkF m 16 #[.val (.int p0), .val (.int p1), .val (.int p2), .val (.int v248), .unset, .unset, .unset, .unset, .unset, .unset, .unset, .unset, .unset, .unset, .unset, .unset, .unset] [(.int v251)])) t → Steps p.tables e below (s₁.setTop (entryFrame m #[(.int p0), (.int p1), (.int p2)] maxLocals)) t := by rw [hv251]; exact pre250
  have pre253 : ∀ t, Steps p.tables e below (T246.setTop (mkF m 27 #[.val (.int p0), .val (.int p1), .val (.int p2), .val (.int v248), .val (.int v251), .unset, .unset, .unset, .unset, .unset, .unset, .unset, .unset, .unset, .unset, .unset, .unset] [(.int ((((p0.toUInt32 >>> ((10 : Int32) &&& 31).toUInt32).toInt32) &&& (255 : Int32)).toUInt32.toUInt16.toUInt32.toInt32))])) t → Steps p.tables e below (s₁.setTop (entryFrame m #[(.int p0), (.int p1), (.int p2)] maxLocals)) t := by
    intro t k
    refine pre252 t ?_
    show Steps p.tables e below (T246.setTop (mkF m 16 #[.val (.int p0), .val (.int p1), .val (.int p2), .val (.int v248), .unset, .unset, .unset, .unset, .unset, .unset, .unset, .unset, .unset, .unset, .unset, .unset, .unset] [(.int v251)])) _
    refine XS.istore X246.here hx rfl (hb hby at_16) rfl (l' := #[.val (.int p0), .val (.int p1), .val (.int p2), .val (.int v248), .val (.int v251), .unset, .unset, .unset, .unset, .unset, .unset, .unset, .unset, .unset, .unset, .unset, .unset]) rfl ?_
    refine XS.iloadN X246.here hx rfl (hb hby at_18) rfl ?_
    refine XS.bipush X246.here hx rfl (hb hby at_19) ?_
    refine XS.iushr X246.here hx rfl (hb hby at_21) rfl ?_
    refine XS.sipush X246.here hx rfl (hb hby at_22) ?_
    refine XS.iand X246.here hx rfl (hb hby at_25) rfl ?_
    refine XS.i2c X246.here hx rfl (hb hby at_26) rfl ?_
    exact k
  obtain ⟨v254, hv254⟩ : ∃ z : Int32, z = ((((p0.toUInt32 >>> ((10 : Int32) &&& 31).toUInt32).toInt32) &&& (255 : Int32)).toUInt32.toUInt16.toUInt32.toInt32) := ⟨_, rfl⟩
  have pre255 : ∀ t, Steps p.tables e below (T246.setTop (mkF m 27 #[.val (.int p0), .val (.int p1), .val (.int p2), .val (.int v248), .val (.int v251), .unset, .unset, .unset, .unset, .unset, .unset, .unset, .unset, .unset, .unset, .unset, .unset] [(.int v254)])) t → Steps p.tables e below (s₁.setTop (entryFrame m #[(.int p0), (.int p1), (.int p2)] maxLocals)) t := by rw [hv254]; exact pre253
  have pre256 : ∀ t, Steps p.tables e below (T246.setTop (mkF m 32 #[.val (.int p0), .val (.int p1), .val (.int p2), .val (.int v248), .val (.int v251), .val (.int v254), .unset, .unset, .unset, .unset, .unset, .unset, .unset, .unset, .unset, .unset, .unset] [(.int (p2 &&& (1 : Int32)))])) t → Steps p.tables e below (s₁.setTop (entryFrame m #[(.int p0), (.int p1), (.int p2)] maxLocals)) t := by
    intro t k
    refine pre255 t ?_
    show Steps p.tables e below (T246.setTop (mkF m 27 #[.val (.int p0), .val (.int p1), .val (.int p2), .val (.int v248), .val (.int v251), .unset, .unset, .unset, .unset, .unset, .unset, .unset, .unset, .unset, .unset, .unset, .unset] [(.int v254)])) _
    refine XS.istore X246.here hx rfl (hb hby at_27) rfl (l' := #[.val (.int p0), .val (.int p1), .val (.int p2), .val (.int v248), .val (.int v251), .val (.int v254), .unset, .unset, .unset, .unset, .unset, .unset, .unset, .unset, .unset, .unset, .unset]) rfl ?_
    refine XS.iloadN X246.here hx rfl (hb hby at_29) rfl ?_
    refine XS.iconst X246.here hx rfl (hb hby at_30) ?_
    refine XS.iand X246.here hx rfl (hb hby at_31) rfl ?_
    exact k
  obtain ⟨v260, pre261, hv260⟩ : ∃ (v260 : Int32), (∀ t, Steps p.tables e below (T246.setTop (mkF m 46 #[.val (.int p0), .val (.int p1), .val (.int p2), .val (.int v248), .val (.int v251), .val (.int v254), .unset, .unset, .unset, .unset, .unset, .unset, .unset, .unset, .unset, .unset, .unset] [(.int v260)])) t → Steps p.tables e below (s₁.setTop (entryFrame m #[(.int p0), (.int p1), (.int p2)] maxLocals)) t) ∧ v260 = (if (p2 &&& (1 : Int32)) = (0 : Int32) then ((p1 &&& (255 : Int32)).toUInt32.toUInt16.toUInt32.toInt32) else v251) := by
    by_cases hc32_257 : (p2 &&& (1 : Int32)) = (0 : Int32)
    · have pre258 : ∀ t, Steps p.tables e below (T246.setTop (mkF m 46 #[.val (.int p0), .val (.int p1), .val (.int p2), .val (.int v248), .val (.int v251), .val (.int v254), .unset, .unset, .unset, .unset, .unset, .unset, .unset, .unset, .unset, .unset, .unset] [(.int ((p1 &&& (255 : Int32)).toUInt32.toUInt16.toUInt32.toInt32))])) t → Steps p.tables e below (s₁.setTop (entryFrame m #[(.int p0), (.int p1), (.int p2)] maxLocals)) t := by
        intro t k
        refine pre256 t ?_
        show Steps p.tables e below (T246.setTop (mkF m 32 #[.val (.int p0), .val (.int p1), .val (.int p2), .val (.int v248), .val (.int v251), .val (.int v254), .unset, .unset, .unset, .unset, .unset, .unset, .unset, .unset, .unset, .unset, .unset] [(.int (p2 &&& (1 : Int32)))])) _
        refine XS.ifYes X246.here hx rfl (pc0 := 32) (pc' := 40) rfl (hb hby at_32) rfl ((if0 _ _).trans (teq hc32_257).1) (by decide) (by decide) ?_
        refine XS.iloadN X246.here hx rfl (hb hby at_40) rfl ?_
        refine XS.sipush X246.here hx rfl (hb hby at_41) ?_
        refine XS.iand X246.here hx rfl (hb hby at_44) rfl ?_
        refine XS.i2c X246.here hx rfl (hb hby at_45) rfl ?_
        exact k
      exact ⟨((p1 &&& (255 : Int32)).toUInt32.toUInt16.toUInt32.toInt32), pre258, by rw [if_pos hc32_257]⟩
    · have pre259 : ∀ t, Steps p.tables e below (T246.setTop (mkF m 46 #[.val (.int p0), .val (.int p1), .val (.int p2), .val (.int v248), .val (.int v251), .val (.int v254), .unset, .unset, .unset, .unset, .unset, .unset, .unset, .unset, .unset, .unset, .unset] [(.int v251)])) t → Steps p.tables e below (s₁.setTop (entryFrame m #[(.int p0), (.int p1), (.int p2)] maxLocals)) t := by
        intro t k
        refine pre256 t ?_
        show Steps p.tables e below (T246.setTop (mkF m 32 #[.val (.int p0), .val (.int p1), .val (.int p2), .val (.int v248), .val (.int v251), .val (.int v254), .unset, .unset, .unset, .unset, .unset, .unset, .unset, .unset, .unset, .unset, .unset] [(.int (p2 &&& (1 : Int32)))])) _
        refine XS.ifNo X246.here hx rfl (hb hby at_32) rfl ((if0 _ _).trans (feq hc32_257).1) ?_
        refine XS.iload X246.here hx rfl (hb hby at_35) rfl ?_
        refine XS.goto X246.here hx rfl (pc0 := 37) (pc' := 46) rfl (hb hby at_37) (by decide) (by decide) ?_
        exact k
      exact ⟨v251, pre259, by rw [if_neg hc32_257]⟩
  have pre262 : ∀ t, Steps p.tables e below (T246.setTop (mkF m 51 #[.val (.int p0), .val (.int p1), .val (.int p2), .val (.int v248), .val (.int v251), .val (.int v254), .val (.int v260), .unset, .unset, .unset, .unset, .unset, .unset, .unset, .unset, .unset, .unset] [(.int (p2 &&& (2 : Int32)))])) t → Steps p.tables e below (s₁.setTop (entryFrame m #[(.int p0), (.int p1), (.int p2)] maxLocals)) t := by
    intro t k
    refine pre261 t ?_
    show Steps p.tables e below (T246.setTop (mkF m 46 #[.val (.int p0), .val (.int p1), .val (.int p2), .val (.int v248), .val (.int v251), .val (.int v254), .unset, .unset, .unset, .unset, .unset, .unset, .unset, .unset, .unset, .unset, .unset] [(.int v260)])) _
    refine XS.istore X246.here hx rfl (hb hby at_46) rfl (l' := #[.val (.int p0), .val (.int p1), .val (.int p2), .val (.int v248), .val (.int v251), .val (.int v254), .val (.int v260), .unset, .unset, .unset, .unset, .unset, .unset, .unset, .unset, .unset, .unset]) rfl ?_
    refine XS.iloadN X246.here hx rfl (hb hby at_48) rfl ?_
    refine XS.iconst X246.here hx rfl (hb hby at_49) ?_
    refine XS.iand X246.here hx rfl (hb hby at_50) rfl ?_
    exact k
  obtain ⟨v266, pre267, hv266⟩ : ∃ (v266 : Int32), (∀ t, Steps p.tables e below (T246.setTop (mkF m 68 #[.val (.int p0), .val (.int p1), .val (.int p2), .val (.int v248), .val (.int v251), .val (.int v254), .val (.int v260), .unset, .unset, .unset, .unset, .unset, .unset, .unset, .unset, .unset, .unset] [(.int v266)])) t → Steps p.tables e below (s₁.setTop (entryFrame m #[(.int p0), (.int p1), (.int p2)] maxLocals)) t) ∧ v266 = (if (p2 &&& (2 : Int32)) = (0 : Int32) then ((((p1.toUInt32 >>> ((8 : Int32) &&& 31).toUInt32).toInt32) &&& (255 : Int32)).toUInt32.toUInt16.toUInt32.toInt32) else v254) := by
    by_cases hc51_263 : (p2 &&& (2 : Int32)) = (0 : Int32)
    · have pre264 : ∀ t, Steps p.tables e below (T246.setTop (mkF m 68 #[.val (.int p0), .val (.int p1), .val (.int p2), .val (.int v248), .val (.int v251), .val (.int v254), .val (.int v260), .unset, .unset, .unset, .unset, .unset, .unset, .unset, .unset, .unset, .unset] [(.int ((((p1.toUInt32 >>> ((8 : Int32) &&& 31).toUInt32).toInt32) &&& (255 : Int32)).toUInt32.toUInt16.toUInt32.toInt32))])) t → Steps p.tables e below (s₁.setTop (entryFrame m #[(.int p0), (.int p1), (.int p2)] maxLocals)) t := by
        intro t k
        refine pre262 t ?_
        show Steps p.tables e below (T246.setTop (mkF m 51 #[.val (.int p0), .val (.int p1), .val (.int p2), .val (.int v248), .val (.int v251), .val (.int v254), .val (.int v260), .unset, .unset, .unset, .unset, .unset, .unset, .unset, .unset, .unset, .unset] [(.int (p2 &&& (2 : Int32)))])) _
        refine XS.ifYes X246.here hx rfl (pc0 := 51) (pc' := 59) rfl (hb hby at_51) rfl ((if0 _ _).trans (teq hc51_263).1) (by decide) (by decide) ?_
        refine XS.iloadN X246.here hx rfl (hb hby at_59) rfl ?_
        refine XS.bipush X246.here hx rfl (hb hby at_60) ?_
        refine XS.iushr X246.here hx rfl (hb hby at_62) rfl ?_
        refine XS.sipush X246.here hx rfl (hb hby at_63) ?_
        refine XS.iand X246.here hx rfl (hb hby at_66) rfl ?_
        refine XS.i2c X246.here hx rfl (hb hby at_67) rfl ?_
        exact k
      exact ⟨((((p1.toUInt32 >>> ((8 : Int32) &&& 31).toUInt32).toInt32) &&& (255 : Int32)).toUInt32.toUInt16.toUInt32.toInt32), pre264, by rw [if_pos hc51_263]⟩
    · have pre265 : ∀ t, Steps p.tables e below (T246.setTop (mkF m 68 #[.val (.int p0), .val (.int p1), .val (.int p2), .val (.int v248), .val (.int v251), .val (.int v254), .val (.int v260), .unset, .unset, .unset, .unset, .unset, .unset, .unset, .unset, .unset, .unset] [(.int v254)])) t → Steps p.tables e below (s₁.setTop (entryFrame m #[(.int p0), (.int p1), (.int p2)] maxLocals)) t := by
        intro t k
        refine pre262 t ?_
        show Steps p.tables e below (T246.setTop (mkF m 51 #[.val (.int p0), .val (.int p1), .val (.int p2), .val (.int v248), .val (.int v251), .val (.int v254), .val (.int v260), .unset, .unset, .unset, .unset, .unset, .unset, .unset, .unset, .unset, .unset] [(.int (p2 &&& (2 : Int32)))])) _
        refine XS.ifNo X246.here hx rfl (hb hby at_51) rfl ((if0 _ _).trans (feq hc51_263).1) ?_
        refine XS.iload X246.here hx rfl (hb hby at_54) rfl ?_
        refine XS.goto X246.here hx rfl (pc0 := 56) (pc' := 68) rfl (hb hby at_56) (by decide) (by decide) ?_
        exact k
      exact ⟨v254, pre265, by rw [if_neg hc51_263]⟩
  have pre268 : ∀ t, Steps p.tables e below (T246.setTop (mkF m 73 #[.val (.int p0), .val (.int p1), .val (.int p2), .val (.int v248), .val (.int v251), .val (.int v254), .val (.int v260), .val (.int v266), .unset, .unset, .unset, .unset, .unset, .unset, .unset, .unset, .unset] [(.int (p2 &&& (4 : Int32)))])) t → Steps p.tables e below (s₁.setTop (entryFrame m #[(.int p0), (.int p1), (.int p2)] maxLocals)) t := by
    intro t k
    refine pre267 t ?_
    show Steps p.tables e below (T246.setTop (mkF m 68 #[.val (.int p0), .val (.int p1), .val (.int p2), .val (.int v248), .val (.int v251), .val (.int v254), .val (.int v260), .unset, .unset, .unset, .unset, .unset, .unset, .unset, .unset, .unset, .unset] [(.int v266)])) _
    refine XS.istore X246.here hx rfl (hb hby at_68) rfl (l' := #[.val (.int p0), .val (.int p1), .val (.int p2), .val (.int v248), .val (.int v251), .val (.int v254), .val (.int v260), .val (.int v266), .unset, .unset, .unset, .unset, .unset, .unset, .unset, .unset, .unset]) rfl ?_
    refine XS.iloadN X246.here hx rfl (hb hby at_70) rfl ?_
    refine XS.iconst X246.here hx rfl (hb hby at_71) ?_
    refine XS.iand X246.here hx rfl (hb hby at_72) rfl ?_
    exact k
  obtain ⟨T276, L276, v274, X276, N276, e276, pre275, hv274⟩ : ∃ (T276 : State) (L276 : List Loc) (v274 : Int32), Stand p l e room_1 s m #[(.int p0), (.int p1), (.int p2)] below meth c T276 L276 0 0 ∧ Fr n0 L276 ∧ T276.heap = h0 ∧ (∀ t, Steps p.tables e below (T276.setTop (mkF m 90 #[.val (.int p0), .val (.int p1), .val (.int p2), .val (.int v248), .val (.int v251), .val (.int v254), .val (.int v260), .val (.int v266), .unset, .unset, .unset, .unset, .unset, .unset, .unset, .unset, .unset] [(.int v274)])) t → Steps p.tables e below (s₁.setTop (entryFrame m #[(.int p0), (.int p1), (.int p2)] maxLocals)) t) ∧ v274 = (if (p2 &&& (4 : Int32)) = (0 : Int32) then (f1 (((p1.toUInt32 >>> ((16 : Int32) &&& 31).toUInt32).toInt32) &&& (3 : Int32)) (2 : Int32)) else v248) := by
    by_cases hc73_269 : (p2 &&& (4 : Int32)) = (0 : Int32)
    · have pre270 : ∀ t, Steps p.tables e below (T246.setTop (mkF m 87 #[.val (.int p0), .val (.int p1), .val (.int p2), .val (.int v248), .val (.int v251), .val (.int v254), .val (.int v260), .val (.int v266), .unset, .unset, .unset, .unset, .unset, .unset, .unset, .unset, .unset] [(.int (2 : Int32)), (.int (((p1.toUInt32 >>> ((16 : Int32) &&& 31).toUInt32).toInt32) &&& (3 : Int32)))])) t → Steps p.tables e below (s₁.setTop (entryFrame m #[(.int p0), (.int p1), (.int p2)] maxLocals)) t := by
        intro t k
        refine pre268 t ?_
        show Steps p.tables e below (T246.setTop (mkF m 73 #[.val (.int p0), .val (.int p1), .val (.int p2), .val (.int v248), .val (.int v251), .val (.int v254), .val (.int v260), .val (.int v266), .unset, .unset, .unset, .unset, .unset, .unset, .unset, .unset, .unset] [(.int (p2 &&& (4 : Int32)))])) _
        refine XS.ifYes X246.here hx rfl (pc0 := 73) (pc' := 80) rfl (hb hby at_73) rfl ((if0 _ _).trans (teq hc73_269).1) (by decide) (by decide) ?_
        refine XS.iloadN X246.here hx rfl (hb hby at_80) rfl ?_
        refine XS.bipush X246.here hx rfl (hb hby at_81) ?_
        refine XS.iushr X246.here hx rfl (hb hby at_83) rfl ?_
        refine XS.iconst X246.here hx rfl (hb hby at_84) ?_
        refine XS.iand X246.here hx rfl (hb hby at_85) rfl ?_
        refine XS.iconst X246.here hx rfl (hb hby at_86) ?_
        exact k
      obtain ⟨_, _, ⟨T271, L271, k271, n271⟩, -, X271, ⟨Lc271, hQ271, l271, y271, z271⟩, st271⟩ := Jvm.LawKit.callS X246 hx (y := (⟨"java/lang/Math", "min", "(II)I"⟩ : MethodName)) hown (mvT hZ (hw _ (List.mem_of_getElem? (i := 0) rfl))) (mvT hZ (hw _ (List.mem_of_getElem? (i := 1) rfl))) (mvT hZ (hw _ (List.mem_of_getElem? (i := 2) rfl))) (mvT hZ (hw _ (List.mem_of_getElem? (i := 3) rfl))) (by decide) (backOf (W := 0) (rm1 l Z ar0 hw [] (((p1.toUInt32 >>> ((16 : Int32) &&& 31).toUInt32).toInt32) &&& (3 : Int32)) (2 : Int32) h0 n0 Z0) hZ (hw _ (List.mem_of_getElem? (i := 3) rfl)) (hw _ (List.mem_of_getElem? (i := 2) rfl)) (by decide) (by decide)) (g := (mkF m 87 #[.val (.int p0), .val (.int p1), .val (.int p2), .val (.int v248), .val (.int v251), .val (.int v254), .val (.int v260), .val (.int v266), .unset, .unset, .unset, .unset, .unset, .unset, .unset, .unset, .unset] [(.int (2 : Int32)), (.int (((p1.toUInt32 >>> ((16 : Int32) &&& 31).toUInt32).toInt32) &&& (3 : Int32)))])) rfl (by rw [hml]; rfl) (argsL := [(.int (((p1.toUInt32 >>> ((16 : Int32) &&& 31).toUInt32).toInt32) &&& (3 : Int32))), (.int (2 : Int32))]) (rest := []) (lenOf pd_8 rfl) rfl (by show 2 * 0 + _ ≤ _; exact Nat.le_of_eq rfl) (hb hby at_87) (fun _ _ => ⟨rfl, e246, (by decide : 0 + 0 ≤ _), (by decide : 0 + 0 ≤ _)⟩)
      dsimp only [Pt.U, Pt.locs, Pt.cells, Pt.slots] at X271 l271 y271 z271 st271 hQ271
      subst l271 y271 z271
      obtain ⟨rfl, N271q, e271⟩ := hQ271
      have N271 := Fr.app N246 N271q
      have pre272 : ∀ t, Steps p.tables e below (T271.setTop (mkF m 90 #[.val (.int p0), .val (.int p1), .val (.int p2), .val (.int v248), .val (.int v251), .val (.int v254), .val (.int v260), .val (.int v266), .unset, .unset, .unset, .unset, .unset, .unset, .unset, .unset, .unset] [(.int (f1 (((p1.toUInt32 >>> ((16 : Int32) &&& 31).toUInt32).toInt32) &&& (3 : Int32)) (2 : Int32)))])) t → Steps p.tables e below (s₁.setTop (entryFrame m #[(.int p0), (.int p1), (.int p2)] maxLocals)) t := fun t k => pre270 t (st271 t k)
      exact ⟨T271, _, (f1 (((p1.toUInt32 >>> ((16 : Int32) &&& 31).toUInt32).toInt32) &&& (3 : Int32)) (2 : Int32)), X271, N271, e271, pre272, by rw [if_pos hc73_269]⟩
    · have pre273 : ∀ t, Steps p.tables e below (T246.setTop (mkF m 90 #[.val (.int p0), .val (.int p1), .val (.int p2), .val (.int v248), .val (.int v251), .val (.int v254), .val (.int v260), .val (.int v266), .unset, .unset, .unset, .unset, .unset, .unset, .unset, .unset, .unset] [(.int v248)])) t → Steps p.tables e below (s₁.setTop (entryFrame m #[(.int p0), (.int p1), (.int p2)] maxLocals)) t := by
        intro t k
        refine pre268 t ?_
        show Steps p.tables e below (T246.setTop (mkF m 73 #[.val (.int p0), .val (.int p1), .val (.int p2), .val (.int v248), .val (.int v251), .val (.int v254), .val (.int v260), .val (.int v266), .unset, .unset, .unset, .unset, .unset, .unset, .unset, .unset, .unset] [(.int (p2 &&& (4 : Int32)))])) _
        refine XS.ifNo X246.here hx rfl (hb hby at_73) rfl ((if0 _ _).trans (feq hc73_269).1) ?_
        refine XS.iloadN X246.here hx rfl (hb hby at_76) rfl ?_
        refine XS.goto X246.here hx rfl (pc0 := 77) (pc' := 90) rfl (hb hby at_77) (by decide) (by decide) ?_
        exact k
      exact ⟨T246, _, v248, X246, N246, e246, pre273, by rw [if_neg hc73_269]⟩
  have pre277 : ∀ t, Steps p.tables e below (T276.setTop (mkF m 97 #[.val (.int p0), .val (.int p1), .val (.int p2), .val (.int v248), .val (.int v251), .val (.int v254), .val (.int v260), .val (.int v266), .val (.int v274), .unset, .unset, .unset, .unset, .unset, .unset, .unset, .unset] [(.int (((p2.toUInt32 >>> ((3 : Int32) &&& 31).toUInt32).toInt32) &&& (3 : Int32)))])) t → Steps p.tables e below (s₁.setTop (entryFrame m #[(.int p0), (.int p1), (.int p2)] maxLocals)) t := by
    intro t k
    refine pre275 t ?_
    show Steps p.tables e below (T276.setTop (mkF m 90 #[.val (.int p0), .val (.int p1), .val (.int p2), .val (.int v248), .val (.int v251), .val (.int v254), .val (.int v260), .val (.int v266), .unset, .unset, .unset, .unset, .unset, .unset, .unset, .unset, .unset] [(.int v274)])) _
    refine XS.istore X276.here hx rfl (hb hby at_90) rfl (l' := #[.val (.int p0), .val (.int p1), .val (.int p2), .val (.int v248), .val (.int v251), .val (.int v254), .val (.int v260), .val (.int v266), .val (.int v274), .unset, .unset, .unset, .unset, .unset, .unset, .unset, .unset]) rfl ?_
    refine XS.iloadN X276.here hx rfl (hb hby at_92) rfl ?_
    refine XS.iconst X276.here hx rfl (hb hby at_93) ?_
    refine XS.iushr X276.here hx rfl (hb hby at_94) rfl ?_
    refine XS.iconst X276.here hx rfl (hb hby at_95) ?_
    refine XS.iand X276.here hx rfl (hb hby at_96) rfl ?_
    exact k
  obtain ⟨v278, hv278⟩ : ∃ z : Int32, z = (((p2.toUInt32 >>> ((3 : Int32) &&& 31).toUInt32).toInt32) &&& (3 : Int32)) := ⟨_, rfl⟩
  have pre279 : ∀ t, Steps p.tables e below (T276.setTop (mkF m 97 #[.val (.int p0), .val (.int p1), .val (.int p2), .val (.int v248), .val (.int v251), .val (.int v254), .val (.int v260), .val (.int v266), .val (.int v274), .unset, .unset, .unset, .unset, .unset, .unset, .unset, .unset] [(.int v278)])) t → Steps p.tables e below (s₁.setTop (entryFrame m #[(.int p0), (.int p1), (.int p2)] maxLocals)) t := by rw [hv278]; exact pre277
  have pre280 : ∀ t, Steps p.tables e below (T276.setTop (mkF m 103 #[.val (.int p0), .val (.int p1), .val (.int p2), .val (.int v248), .val (.int v251), .val (.int v254), .val (.int v260), .val (.int v266), .val (.int v274), .val (.int v278), .unset, .unset, .unset, .unset, .unset, .unset, .unset] [(.int (p2 &&& (32 : Int32)))])) t → Steps p.tables e below (s₁.setTop (entryFrame m #[(.int p0), (.int p1), (.int p2)] maxLocals)) t := by
    intro t k
    refine pre279 t ?_
    show Steps p.tables e below (T276.setTop (mkF m 97 #[.val (.int p0), .val (.int p1), .val (.int p2), .val (.int v248), .val (.int v251), .val (.int v254), .val (.int v260), .val (.int v266), .val (.int v274), .unset, .unset, .unset, .unset, .unset, .unset, .unset, .unset] [(.int v278)])) _
    refine XS.istore X276.here hx rfl (hb hby at_97) rfl (l' := #[.val (.int p0), .val (.int p1), .val (.int p2), .val (.int v248), .val (.int v251), .val (.int v254), .val (.int v260), .val (.int v266), .val (.int v274), .val (.int v278), .unset, .unset, .unset, .unset, .unset, .unset, .unset]) rfl ?_
    refine XS.iloadN X276.here hx rfl (hb hby at_99) rfl ?_
    refine XS.bipush X276.here hx rfl (hb hby at_100) ?_
    refine XS.iand X276.here hx rfl (hb hby at_102) rfl ?_
    exact k
  obtain ⟨v284, pre285, hv284⟩ : ∃ (v284 : Int32), (∀ t, Steps p.tables e below (T276.setTop (mkF m 117 #[.val (.int p0), .val (.int p1), .val (.int p2), .val (.int v248), .val (.int v251), .val (.int v254), .val (.int v260), .val (.int v266), .val (.int v274), .val (.int v278), .unset, .unset, .unset, .unset, .unset, .unset, .unset] [(.int v284)])) t → Steps p.tables e below (s₁.setTop (entryFrame m #[(.int p0), (.int p1), (.int p2)] maxLocals)) t) ∧ v284 = (if (p2 &&& (32 : Int32)) = (0 : Int32) then (((p2.toUInt32 >>> ((6 : Int32) &&& 31).toUInt32).toInt32) &&& (3 : Int32)) else v278) := by
    by_cases hc103_281 : (p2 &&& (32 : Int32)) = (0 : Int32)
    · have pre282 : ∀ t, Steps p.tables e below (T276.setTop (mkF m 117 #[.val (.int p0), .val (.int p1), .val (.int p2), .val (.int v248), .val (.int v251), .val (.int v254), .val (.int v260), .val (.int v266), .val (.int v274), .val (.int v278), .unset, .unset, .unset, .unset, .unset, .unset, .unset] [(.int (((p2.toUInt32 >>> ((6 : Int32) &&& 31).toUInt32).toInt32) &&& (3 : Int32)))])) t → Steps p.tables e below (s₁.setTop (entryFrame m #[(.int p0), (.int p1), (.int p2)] maxLocals)) t := by
        intro t k
        refine pre280 t ?_
        show Steps p.tables e below (T276.setTop (mkF m 103 #[.val (.int p0), .val (.int p1), .val (.int p2), .val (.int v248), .val (.int v251), .val (.int v254), .val (.int v260), .val (.int v266), .val (.int v274), .val (.int v278), .unset, .unset, .unset, .unset, .unset, .unset, .unset] [(.int (p2 &&& (32 : Int32)))])) _
        refine XS.ifYes X276.here hx rfl (pc0 := 103) (pc' := 111) rfl (hb hby at_103) rfl ((if0 _ _).trans (teq hc103_281).1) (by decide) (by decide) ?_
        refine XS.iloadN X276.here hx rfl (hb hby at_111) rfl ?_
        refine XS.bipush X276.here hx rfl (hb hby at_112) ?_
        refine XS.iushr X276.here hx rfl (hb hby at_114) rfl ?_
        refine XS.iconst X276.here hx rfl (hb hby at_115) ?_
        refine XS.iand X276.here hx rfl (hb hby at_116) rfl ?_
        exact k
      exact ⟨(((p2.toUInt32 >>> ((6 : Int32) &&& 31).toUInt32).toInt32) &&& (3 : Int32)), pre282, by rw [if_pos hc103_281]⟩
    · have pre283 : ∀ t, Steps p.tables e below (T276.setTop (mkF m 117 #[.val (.int p0), .val (.int p1), .val (.int p2), .val (.int v248), .val (.int v251), .val (.int v254), .val (.int v260), .val (.int v266), .val (.int v274), .val (.int v278), .unset, .unset, .unset, .unset, .unset, .unset, .unset] [(.int v278)])) t → Steps p.tables e below (s₁.setTop (entryFrame m #[(.int p0), (.int p1), (.int p2)] maxLocals)) t := by
        intro t k
        refine pre280 t ?_
        show Steps p.tables e below (T276.setTop (mkF m 103 #[.val (.int p0), .val (.int p1), .val (.int p2), .val (.int v248), .val (.int v251), .val (.int v254), .val (.int v260), .val (.int v266), .val (.int v274), .val (.int v278), .unset, .unset, .unset, .unset, .unset, .unset, .unset] [(.int (p2 &&& (32 : Int32)))])) _
        refine XS.ifNo X276.here hx rfl (hb hby at_103) rfl ((if0 _ _).trans (feq hc103_281).1) ?_
        refine XS.iload X276.here hx rfl (hb hby at_106) rfl ?_
        refine XS.goto X276.here hx rfl (pc0 := 108) (pc' := 117) rfl (hb hby at_108) (by decide) (by decide) ?_
        exact k
      exact ⟨v278, pre283, by rw [if_neg hc103_281]⟩
  have pre286 : ∀ t, Steps p.tables e below (T276.setTop (mkF m 125 #[.val (.int p0), .val (.int p1), .val (.int p2), .val (.int v248), .val (.int v251), .val (.int v254), .val (.int v260), .val (.int v266), .val (.int v274), .val (.int v278), .val (.int v284), .unset, .unset, .unset, .unset, .unset, .unset] [(.int (((p2.toUInt32 >>> ((8 : Int32) &&& 31).toUInt32).toInt32) &&& (3 : Int32)))])) t → Steps p.tables e below (s₁.setTop (entryFrame m #[(.int p0), (.int p1), (.int p2)] maxLocals)) t := by
    intro t k
    refine pre285 t ?_
    show Steps p.tables e below (T276.setTop (mkF m 117 #[.val (.int p0), .val (.int p1), .val (.int p2), .val (.int v248), .val (.int v251), .val (.int v254), .val (.int v260), .val (.int v266), .val (.int v274), .val (.int v278), .unset, .unset, .unset, .unset, .unset, .unset, .unset] [(.int v284)])) _
    refine XS.istore X276.here hx rfl (hb hby at_117) rfl (l' := #[.val (.int p0), .val (.int p1), .val (.int p2), .val (.int v248), .val (.int v251), .val (.int v254), .val (.int v260), .val (.int v266), .val (.int v274), .val (.int v278), .val (.int v284), .unset, .unset, .unset, .unset, .unset, .unset]) rfl ?_
    refine XS.iloadN X276.here hx rfl (hb hby at_119) rfl ?_
    refine XS.bipush X276.here hx rfl (hb hby at_120) ?_
    refine XS.iushr X276.here hx rfl (hb hby at_122) rfl ?_
    refine XS.iconst X276.here hx rfl (hb hby at_123) ?_
    refine XS.iand X276.here hx rfl (hb hby at_124) rfl ?_
    exact k
  obtain ⟨v287, hv287⟩ : ∃ z : Int32, z = (((p2.toUInt32 >>> ((8 : Int32) &&& 31).toUInt32).toInt32) &&& (3 : Int32)) := ⟨_, rfl⟩
  have pre288 : ∀ t, Steps p.tables e below (T276.setTop (mkF m 125 #[.val (.int p0), .val (.int p1), .val (.int p2), .val (.int v248), .val (.int v251), .val (.int v254), .val (.int v260), .val (.int v266), .val (.int v274), .val (.int v278), .val (.int v284), .unset, .unset, .unset, .unset, .unset, .unset] [(.int v287)])) t → Steps p.tables e below (s₁.setTop (entryFrame m #[(.int p0), (.int p1), (.int p2)] maxLocals)) t := by rw [hv287]; exact pre286
  have pre289 : ∀ t, Steps p.tables e below (T276.setTop (mkF m 132 #[.val (.int p0), .val (.int p1), .val (.int p2), .val (.int v248), .val (.int v251), .val (.int v254), .val (.int v260), .val (.int v266), .val (.int v274), .val (.int v278), .val (.int v284), .val (.int v287), .unset, .unset, .unset, .unset, .unset] [(.int v254), (.int v251), (.int v248)])) t → Steps p.tables e below (s₁.setTop (entryFrame m #[(.int p0), (.int p1), (.int p2)] maxLocals)) t := by
    intro t k
    refine pre288 t ?_
    show Steps p.tables e below (T276.setTop (mkF m 125 #[.val (.int p0), .val (.int p1), .val (.int p2), .val (.int v248), .val (.int v251), .val (.int v254), .val (.int v260), .val (.int v266), .val (.int v274), .val (.int v278), .val (.int v284), .unset, .unset, .unset, .unset, .unset, .unset] [(.int v287)])) _
    refine XS.istore X276.here hx rfl (hb hby at_125) rfl (l' := #[.val (.int p0), .val (.int p1), .val (.int p2), .val (.int v248), .val (.int v251), .val (.int v254), .val (.int v260), .val (.int v266), .val (.int v274), .val (.int v278), .val (.int v284), .val (.int v287), .unset, .unset, .unset, .unset, .unset]) rfl ?_
    refine XS.iloadN X276.here hx rfl (hb hby at_127) rfl ?_
    refine XS.iload X276.here hx rfl (hb hby at_128) rfl ?_
    refine XS.iload X276.here hx rfl (hb hby at_130) rfl ?_
    exact k
  obtain ⟨_, _, ⟨T290, L290, k290, n290⟩, -, X290r, hS290r, hg290r, ⟨Lc290, hQ290, l290, y290, z290, hC290⟩, st290⟩ := callSS X276 hx (y := (⟨"com/example/oversee/oversee/model/VariableEqualsPinLaw", "mk", "(ICC)Ljava/lang/String;"⟩ : MethodName)) hown (mvT hZ (hw _ (List.mem_of_getElem? (i := 4) rfl))) (mvT hZ (hw _ (List.mem_of_getElem? (i := 5) rfl))) (mvT hZ (hw _ (List.mem_of_getElem? (i := 6) rfl))) (mvT hZ (hw _ (List.mem_of_getElem? (i := 7) rfl))) (by decide) (backOfSH (W := 0) (rm2 l Z ar0 hw [] v248 v251 v254 gc1 h0 n0 Z0 P5 (own_rg1 hv251) (own_rg1 hv254) S_COMPACT_STRINGS) hZ (hw _ (List.mem_of_getElem? (i := 7) rfl)) (hw _ (List.mem_of_getElem? (i := 6) rfl)) (by decide) (by decide) hEL hCR0.1) (g := (mkF m 132 #[.val (.int p0), .val (.int p1), .val (.int p2), .val (.int v248), .val (.int v251), .val (.int v254), .val (.int v260), .val (.int v266), .val (.int v274), .val (.int v278), .val (.int v284), .val (.int v287), .unset, .unset, .unset, .unset, .unset] [(.int v254), (.int v251), (.int v248)])) rfl (by rw [hml]; rfl) (argsL := [(.int v248), (.int v251), (.int v254)]) (rest := []) (lenOf pd_9 rfl) rfl (by show 2 * 0 + _ ≤ _; exact Nat.le_of_eq rfl) (hb hby at_132) (fun _ _ => ⟨rfl, e276, (by decide : 0 + 6 ≤ _), (by decide : 0 + 12 ≤ _)⟩)
  dsimp only [Pt.U, Pt.locs, Pt.cells, Pt.slots] at X290r hS290r hg290r l290 y290 z290 st290 hQ290 hC290
  subst l290 y290 z290
  obtain ⟨X290, hS290, hZ290, ho290⟩ := rebS (s := s) (vm0 := s.vm) (n1 := T276.heap.size) hS0 (by rw [e276]; first | exact (Nat.zero_le _) | exact Nat.le_refl _) X290r hS290r hg290r hZ hown
  obtain ⟨h290, e290⟩ : ∃ h, T290.heap = h := ⟨_, rfl⟩
  rw [e290] at hQ290
  obtain ⟨b290, b290b, kb290b, rfl, N290q, K290q, y_b290, Ob290_0, Ob290_1, Ob290_2, Ob290b_0⟩ := hQ290
  have N290 := Fr.app N276 N290q
  have ne_s_INT_b290 : s_INT ≠ b290 := Nat.ne_of_lt (Nat.lt_of_lt_of_le (E_s_INT).lt y_b290)
  have ne_s_REAL_b290 : s_REAL ≠ b290 := Nat.ne_of_lt (Nat.lt_of_lt_of_le (E_s_REAL).lt y_b290)
  have ne_s_BOOL_b290 : s_BOOL ≠ b290 := Nat.ne_of_lt (Nat.lt_of_lt_of_le (E_s_BOOL).lt y_b290)
  have ne_s_STRING_b290 : s_STRING ≠ b290 := Nat.ne_of_lt (Nat.lt_of_lt_of_le (E_s_STRING).lt y_b290)
  have g_b290 : n0 ≤ b290 := Nat.le_trans Z0 y_b290
  have sz_b290 : h0.size ≤ b290 := Nat.le_trans (Keep.refl h0 []).1 y_b290
  have Z290 : n0 ≤ h290.size := Nat.le_trans Z0 K290q.1
  have K290 : Keep h0 h290 [] := (Keep.refl h0 []).trans K290q (fun x hx => absurd hx List.not_mem_nil)
  have Sf291 : Sta Z h290 "java/lang/String" "COMPACT_STRINGS" "Z" (.int gc1) := own_sta_keep0 S_COMPACT_STRINGS K290q
  have Sf292 : Sta Z h290 "com/example/oversee/oversee/model/Sort" "INT" "Lcom/example/oversee/oversee/model/Sort;" (.ref s_INT) := own_sta_keep0 S_INT K290q
  have Sf293 : Sta Z h290 "com/example/oversee/oversee/model/Sort" "REAL" "Lcom/example/oversee/oversee/model/Sort;" (.ref s_REAL) := own_sta_keep0 S_REAL K290q
  have Sf294 : Sta Z h290 "com/example/oversee/oversee/model/Sort" "BOOL" "Lcom/example/oversee/oversee/model/Sort;" (.ref s_BOOL) := own_sta_keep0 S_BOOL K290q
  have Sf295 : Sta Z h290 "com/example/oversee/oversee/model/Sort" "STRING" "Lcom/example/oversee/oversee/model/Sort;" (.ref s_STRING) := own_sta_keep0 S_STRING K290q
  have Ef296 : Exa Z h290 s_INT "com/example/oversee/oversee/model/Sort" := (E_s_INT).keep K290q
  have Ef297 : Exa Z h290 s_REAL "com/example/oversee/oversee/model/Sort" := (E_s_REAL).keep K290q
  have Ef298 : Exa Z h290 s_BOOL "com/example/oversee/oversee/model/Sort" := (E_s_BOOL).keep K290q
  have Ef299 : Exa Z h290 s_STRING "com/example/oversee/oversee/model/Sort" := (E_s_STRING).keep K290q
  rw [e290] at hC290
  have CR290 := hCR0.trans hC290
  have hk290 : T290.heap.size ≤ h290.size := by rw [e290]; exact Nat.le_refl _
  have pre300 : ∀ t, Steps p.tables e below (T290.setTop (mkF m 135 #[.val (.int p0), .val (.int p1), .val (.int p2), .val (.int v248), .val (.int v251), .val (.int v254), .val (.int v260), .val (.int v266), .val (.int v274), .val (.int v278), .val (.int v284), .val (.int v287), .unset, .unset, .unset, .unset, .unset] [(.ref b290)])) t → Steps p.tables e below (s₁.setTop (entryFrame m #[(.int p0), (.int p1), (.int p2)] maxLocals)) t := fun t k => pre289 t (st290.trans k)
  have pre301 : ∀ t, Steps p.tables e below (T290.setTop (mkF m 143 #[.val (.int p0), .val (.int p1), .val (.int p2), .val (.int v248), .val (.int v251), .val (.int v254), .val (.int v260), .val (.int v266), .val (.int v274), .val (.int v278), .val (.int v284), .val (.int v287), .val (.ref b290), .unset, .unset, .unset, .unset] [(.int v266), (.int v260), (.int v274)])) t → Steps p.tables e below (s₁.setTop (entryFrame m #[(.int p0), (.int p1), (.int p2)] maxLocals)) t := by
    intro t k
    refine pre300 t ?_
    show Steps p.tables e below (T290.setTop (mkF m 135 #[.val (.int p0), .val (.int p1), .val (.int p2), .val (.int v248), .val (.int v251), .val (.int v254), .val (.int v260), .val (.int v266), .val (.int v274), .val (.int v278), .val (.int v284), .val (.int v287), .unset, .unset, .unset, .unset, .unset] [(.ref b290)])) _
    refine XS.astore X290.here hx rfl (hb hby at_135) rfl rfl (l' := #[.val (.int p0), .val (.int p1), .val (.int p2), .val (.int v248), .val (.int v251), .val (.int v254), .val (.int v260), .val (.int v266), .val (.int v274), .val (.int v278), .val (.int v284), .val (.int v287), .val (.ref b290), .unset, .unset, .unset, .unset]) rfl ?_
    refine XS.iload X290.here hx rfl (hb hby at_137) rfl ?_
    refine XS.iload X290.here hx rfl (hb hby at_139) rfl ?_
    refine XS.iload X290.here hx rfl (hb hby at_141) rfl ?_
    exact k
  obtain ⟨_, _, ⟨T302, L302, k302, n302⟩, -, X302r, hS302r, hg302r, ⟨Lc302, hQ302, l302, y302, z302, hC302⟩, st302⟩ := callSS X290 hx (y := (⟨"com/example/oversee/oversee/model/VariableEqualsPinLaw", "mk", "(ICC)Ljava/lang/String;"⟩ : MethodName)) ho290 (mvT hZ290 (hw _ (List.mem_of_getElem? (i := 4) rfl))) (mvT hZ290 (hw _ (List.mem_of_getElem? (i := 5) rfl))) (mvT hZ290 (hw _ (List.mem_of_getElem? (i := 6) rfl))) (mvT hZ290 (hw _ (List.mem_of_getElem? (i := 7) rfl))) (by decide) (backOfSH (W := 0) (rm2 l Z ar0 hw [] v274 v260 v266 gc1 h290 n0 Z290 P5 (own_rg2 hv260 (own_rg1 hv251)) (own_rg2 hv266 (own_rg1 hv254)) Sf291) hZ290 (hw _ (List.mem_of_getElem? (i := 7) rfl)) (hw _ (List.mem_of_getElem? (i := 6) rfl)) (by decide) (by decide) hEL CR290.1) (g := (mkF m 143 #[.val (.int p0), .val (.int p1), .val (.int p2), .val (.int v248), .val (.int v251), .val (.int v254), .val (.int v260), .val (.int v266), .val (.int v274), .val (.int v278), .val (.int v284), .val (.int v287), .val (.ref b290), .unset, .unset, .unset, .unset] [(.int v266), (.int v260), (.int v274)])) rfl (by rw [hml]; rfl) (argsL := [(.int v274), (.int v260), (.int v266)]) (rest := []) (lenOf pd_9 rfl) rfl (by show 2 * 0 + _ ≤ _; exact Nat.le_of_eq rfl) (hb hby at_143) (fun _ _ => ⟨rfl, e290, (by decide : 6 + 6 ≤ _), (by decide : 12 + 12 ≤ _)⟩)
  dsimp only [Pt.U, Pt.locs, Pt.cells, Pt.slots] at X302r hS302r hg302r l302 y302 z302 st302 hQ302 hC302
  subst l302 y302 z302
  obtain ⟨X302, hS302, hZ302, ho302⟩ := rebS (s := s) (vm0 := T290.vm) (n1 := T290.heap.size) hS290 (by rw [e290]; first | exact hk290 | exact Nat.le_refl _) X302r hS302r hg302r hZ290 ho290
  obtain ⟨h302, e302⟩ : ∃ h, T302.heap = h := ⟨_, rfl⟩
  rw [e302] at hQ302
  obtain ⟨b302, b302b, kb302b, rfl, N302q, K302q, y_b302, Ob302_0, Ob302_1, Ob302_2, Ob302b_0⟩ := hQ302
  have N302 := Fr.app N290 N302q
  have ne_s_INT_b302 : s_INT ≠ b302 := Nat.ne_of_lt (Nat.lt_of_lt_of_le (Ef296).lt y_b302)
  have ne_s_REAL_b302 : s_REAL ≠ b302 := Nat.ne_of_lt (Nat.lt_of_lt_of_le (Ef297).lt y_b302)
  have ne_s_BOOL_b302 : s_BOOL ≠ b302 := Nat.ne_of_lt (Nat.lt_of_lt_of_le (Ef298).lt y_b302)
  have ne_s_STRING_b302 : s_STRING ≠ b302 := Nat.ne_of_lt (Nat.lt_of_lt_of_le (Ef299).lt y_b302)
  have ne_b290_b302 : b290 ≠ b302 := Nat.ne_of_lt (Nat.lt_of_lt_of_le (Ob290_0).lt y_b302)
  have ne_b290b_b302 : b290b ≠ b302 := Nat.ne_of_lt (Nat.lt_of_lt_of_le (Ob290b_0).lt y_b302)
  have g_b302 : n0 ≤ b302 := Nat.le_trans Z290 y_b302
  have sz_b302 : h0.size ≤ b302 := Nat.le_trans K290.1 y_b302
  have Z302 : n0 ≤ h302.size := Nat.le_trans Z290 K302q.1
  have K302 : Keep h0 h302 [] := K290.trans K302q (fun x hx => absurd hx List.not_mem_nil)
  have Sf303 : Sta Z h302 "java/lang/String" "COMPACT_STRINGS" "Z" (.int gc1) := own_sta_keep0 Sf291 K302q
  have Sf304 : Sta Z h302 "com/example/oversee/oversee/model/Sort" "INT" "Lcom/example/oversee/oversee/model/Sort;" (.ref s_INT) := own_sta_keep0 Sf292 K302q
  have Sf305 : Sta Z h302 "com/example/oversee/oversee/model/Sort" "REAL" "Lcom/example/oversee/oversee/model/Sort;" (.ref s_REAL) := own_sta_keep0 Sf293 K302q
  have Sf306 : Sta Z h302 "com/example/oversee/oversee/model/Sort" "BOOL" "Lcom/example/oversee/oversee/model/Sort;" (.ref s_BOOL) := own_sta_keep0 Sf294 K302q
  have Sf307 : Sta Z h302 "com/example/oversee/oversee/model/Sort" "STRING" "Lcom/example/oversee/oversee/model/Sort;" (.ref s_STRING) := own_sta_keep0 Sf295 K302q
  have Ef308 : Exa Z h302 s_INT "com/example/oversee/oversee/model/Sort" := (Ef296).keep K302q
  have Ef309 : Exa Z h302 s_REAL "com/example/oversee/oversee/model/Sort" := (Ef297).keep K302q
  have Ef310 : Exa Z h302 s_BOOL "com/example/oversee/oversee/model/Sort" := (Ef298).keep K302q
  have Ef311 : Exa Z h302 s_STRING "com/example/oversee/oversee/model/Sort" := (Ef299).keep K302q
  have Ef312 : Exa Z h302 b290 "java/lang/String" := (Ob290_0).keep K302q
  have Ff313 : Fld Z h302 b290 "java/lang/String" "value" "[B" (.ref b290b) := (Ob290_1).keep K302q List.not_mem_nil
  have Ff314 : Fld Z h302 b290 "java/lang/String" "coder" "B" (.int (0 : Int32)) := (Ob290_2).keep K302q List.not_mem_nil
  have Vf315 : Arv Z h302 b290b kb290b .byte (Int32.ofNat (own_cs v248 v251 v254).length) ((((own_cs v248 v251 v254) : List Int32).map (fun c => c.toInt8.toInt32)).map Value.int) (.int (0 : Int32)) := (Ob290b_0).keep K302q List.not_mem_nil
  rw [e302] at hC302
  have CR302 := CR290.trans hC302
  have hk302 : T302.heap.size ≤ h302.size := by rw [e302]; exact Nat.le_refl _
  have pre316 : ∀ t, Steps p.tables e below (T302.setTop (mkF m 146 #[.val (.int p0), .val (.int p1), .val (.int p2), .val (.int v248), .val (.int v251), .val (.int v254), .val (.int v260), .val (.int v266), .val (.int v274), .val (.int v278), .val (.int v284), .val (.int v287), .val (.ref b290), .unset, .unset, .unset, .unset] [(.ref b302)])) t → Steps p.tables e below (s₁.setTop (entryFrame m #[(.int p0), (.int p1), (.int p2)] maxLocals)) t := fun t k => pre301 t (st302.trans k)
  have pre317 : ∀ t, Steps p.tables e below (T302.setTop (mkF m 148 #[.val (.int p0), .val (.int p1), .val (.int p2), .val (.int v248), .val (.int v251), .val (.int v254), .val (.int v260), .val (.int v266), .val (.int v274), .val (.int v278), .val (.int v284), .val (.int v287), .val (.ref b290), .val (.ref b302), .unset, .unset, .unset] [])) t → Steps p.tables e below (s₁.setTop (entryFrame m #[(.int p0), (.int p1), (.int p2)] maxLocals)) t := by
    intro t k
    refine pre316 t ?_
    show Steps p.tables e below (T302.setTop (mkF m 146 #[.val (.int p0), .val (.int p1), .val (.int p2), .val (.int v248), .val (.int v251), .val (.int v254), .val (.int v260), .val (.int v266), .val (.int v274), .val (.int v278), .val (.int v284), .val (.int v287), .val (.ref b290), .unset, .unset, .unset, .unset] [(.ref b302)])) _
    refine XS.astore X302.here hx rfl (hb hby at_146) rfl rfl (l' := #[.val (.int p0), .val (.int p1), .val (.int p2), .val (.int v248), .val (.int v251), .val (.int v254), .val (.int v260), .val (.int v266), .val (.int v274), .val (.int v278), .val (.int v284), .val (.int v287), .val (.ref b290), .val (.ref b302), .unset, .unset, .unset]) rfl ?_
    exact k
  obtain ⟨T318, h318, X318, e318, E318, A318, D318, -, st318⟩ := newO X302 hx hZ302 ho302 (hw _ (List.mem_of_getElem? (i := 30) rfl)) (hw _ (List.mem_of_getElem? (i := 31) rfl)) (hw _ (List.mem_of_getElem? (i := 32) rfl)) e302 (g := (mkF m 148 #[.val (.int p0), .val (.int p1), .val (.int p2), .val (.int v248), .val (.int v251), .val (.int v254), .val (.int v260), .val (.int v266), .val (.int v274), .val (.int v278), .val (.int v284), .val (.int v287), .val (.ref b290), .val (.ref b302), .unset, .unset, .unset] [])) rfl (hb hby at_148) (by decide) (by decide)
  obtain ⟨b318, g318⟩ : ∃ z, z = h302.size := ⟨_, rfl⟩
  rw [← g318] at A318 D318 st318
  have ne_s_INT_b318 : s_INT ≠ b318 := Nat.ne_of_lt (Nat.lt_of_lt_of_le (Ef308).lt (Nat.le_of_eq g318.symm))
  have ne_s_REAL_b318 : s_REAL ≠ b318 := Nat.ne_of_lt (Nat.lt_of_lt_of_le (Ef309).lt (Nat.le_of_eq g318.symm))
  have ne_s_BOOL_b318 : s_BOOL ≠ b318 := Nat.ne_of_lt (Nat.lt_of_lt_of_le (Ef310).lt (Nat.le_of_eq g318.symm))
  have ne_s_STRING_b318 : s_STRING ≠ b318 := Nat.ne_of_lt (Nat.lt_of_lt_of_le (Ef311).lt (Nat.le_of_eq g318.symm))
  have ne_b290_b318 : b290 ≠ b318 := Nat.ne_of_lt (Nat.lt_of_lt_of_le (Ef312).lt (Nat.le_of_eq g318.symm))
  have ne_b290b_b318 : b290b ≠ b318 := Nat.ne_of_lt (Nat.lt_of_lt_of_le (Vf315).lt (Nat.le_of_eq g318.symm))
  have ne_b302_b318 : b302 ≠ b318 := Nat.ne_of_lt (Nat.lt_of_lt_of_le (Ob302_0).lt (Nat.le_of_eq g318.symm))
  have ne_b302b_b318 : b302b ≠ b318 := Nat.ne_of_lt (Nat.lt_of_lt_of_le (Ob302b_0).lt (Nat.le_of_eq g318.symm))
  have g_b318 : n0 ≤ b318 := Nat.le_trans Z302 (Nat.le_of_eq g318.symm)
  have sz_b318 : h0.size ≤ b318 := Nat.le_trans K302.1 (Nat.le_of_eq g318.symm)
  have Z318 : n0 ≤ h318.size := Nat.le_trans Z302 E318.1
  have K318 : Keep h0 h318 [] := K302.ext E318
  have hk318 := Nat.le_trans hk302 E318.1
  have CR318 := CR302.trans (CHr.ext E318 CR302.1)
  have Sf319 : Sta Z h318 "java/lang/String" "COMPACT_STRINGS" "Z" (.int gc1) := (Sf303).ext E318
  have Sf320 : Sta Z h318 "com/example/oversee/oversee/model/Sort" "INT" "Lcom/example/oversee/oversee/model/Sort;" (.ref s_INT) := (Sf304).ext E318
  have Sf321 : Sta Z h318 "com/example/oversee/oversee/model/Sort" "REAL" "Lcom/example/oversee/oversee/model/Sort;" (.ref s_REAL) := (Sf305).ext E318
  have Sf322 : Sta Z h318 "com/example/oversee/oversee/model/Sort" "BOOL" "Lcom/example/oversee/oversee/model/Sort;" (.ref s_BOOL) := (Sf306).ext E318
  have Sf323 : Sta Z h318 "com/example/oversee/oversee/model/Sort" "STRING" "Lcom/example/oversee/oversee/model/Sort;" (.ref s_STRING) := (Sf307).ext E318
  have Ef324 : Exa Z h318 s_INT "com/example/oversee/oversee/model/Sort" := (Ef308).ext E318
  have Ef325 : Exa Z h318 s_REAL "com/example/oversee/oversee/model/Sort" := (Ef309).ext E318
  have Ef326 : Exa Z h318 s_BOOL "com/example/oversee/oversee/model/Sort" := (Ef310).ext E318
  have Ef327 : Exa Z h318 s_STRING "com/example/oversee/oversee/model/Sort" := (Ef311).ext E318
  have Ef328 : Exa Z h318 b290 "java/lang/String" := (Ef312).ext E318
  have Ff329 : Fld Z h318 b290 "java/lang/String" "value" "[B" (.ref b290b) := (Ff313).ext E318
  have Ff330 : Fld Z h318 b290 "java/lang/String" "coder" "B" (.int (0 : Int32)) := (Ff314).ext E318
  have Vf331 : Arv Z h318 b290b kb290b .byte (Int32.ofNat (own_cs v248 v251 v254).length) ((((own_cs v248 v251 v254) : List Int32).map (fun c => c.toInt8.toInt32)).map Value.int) (.int (0 : Int32)) := (Vf315).ext E318
  have Ef332 : Exa Z h318 b302 "java/lang/String" := (Ob302_0).ext E318
  have Ff333 : Fld Z h318 b302 "java/lang/String" "value" "[B" (.ref b302b) := (Ob302_1).ext E318
  have Ff334 : Fld Z h318 b302 "java/lang/String" "coder" "B" (.int (0 : Int32)) := (Ob302_2).ext E318
  have Vf335 : Arv Z h318 b302b kb302b .byte (Int32.ofNat (own_cs v274 v260 v266).length) ((((own_cs v274 v260 v266) : List Int32).map (fun c => c.toInt8.toInt32)).map Value.int) (.int (0 : Int32)) := (Ob302b_0).ext E318
  have Fname_b318 : Fld Z h318 b318 "com/example/oversee/oversee/model/Variable" "name" "Ljava/lang/String;" .null := D318 (Or.inr (hw _ (List.mem_of_getElem? (i := 50) rfl))) (ty := (.object "java/lang/String")) (by decide)
  have Fsort_b318 : Fld Z h318 b318 "com/example/oversee/oversee/model/Variable" "sort" "Lcom/example/oversee/oversee/model/Sort;" .null := D318 (Or.inr (hw _ (List.mem_of_getElem? (i := 55) rfl))) (ty := (.object "com/example/oversee/oversee/model/Sort")) (by decide)
  have pre336 : ∀ t, Steps p.tables e below (T318.setTop (mkF m 151 #[.val (.int p0), .val (.int p1), .val (.int p2), .val (.int v248), .val (.int v251), .val (.int v254), .val (.int v260), .val (.int v266), .val (.int v274), .val (.int v278), .val (.int v284), .val (.int v287), .val (.ref b290), .val (.ref b302), .unset, .unset, .unset] [(.ref b318)])) t → Steps p.tables e below (s₁.setTop (entryFrame m #[(.int p0), (.int p1), (.int p2)] maxLocals)) t := fun t k => pre317 t (st318 t k)
  have pre337 : ∀ t, Steps p.tables e below (T318.setTop (mkF m 156 #[.val (.int p0), .val (.int p1), .val (.int p2), .val (.int v248), .val (.int v251), .val (.int v254), .val (.int v260), .val (.int v266), .val (.int v274), .val (.int v278), .val (.int v284), .val (.int v287), .val (.ref b290), .val (.ref b302), .unset, .unset, .unset] [(.int v278), (.ref b290), (.ref b318), (.ref b318)])) t → Steps p.tables e below (s₁.setTop (entryFrame m #[(.int p0), (.int p1), (.int p2)] maxLocals)) t := by
    intro t k
    refine pre336 t ?_
    show Steps p.tables e below (T318.setTop (mkF m 151 #[.val (.int p0), .val (.int p1), .val (.int p2), .val (.int v248), .val (.int v251), .val (.int v254), .val (.int v260), .val (.int v266), .val (.int v274), .val (.int v278), .val (.int v284), .val (.int v287), .val (.ref b290), .val (.ref b302), .unset, .unset, .unset] [(.ref b318)])) _
    refine XS.dup X318.here hx rfl (hb hby at_151) rfl rfl ?_
    refine XS.aload X318.here hx rfl (hb hby at_152) rfl rfl ?_
    refine XS.iload X318.here hx rfl (hb hby at_154) rfl ?_
    exact k
  obtain ⟨_, _, ⟨T338, L338, k338, n338⟩, -, X338, ⟨Lc338, hQ338, l338, y338, z338⟩, st338⟩ := Jvm.LawKit.callS X318 hx (y := (⟨"com/example/oversee/oversee/model/VariableEqualsPinLaw", "sortOf", "(I)Lcom/example/oversee/oversee/model/Sort;"⟩ : MethodName)) ho302 (mvT hZ302 (hw _ (List.mem_of_getElem? (i := 33) rfl))) (mvT hZ302 (hw _ (List.mem_of_getElem? (i := 34) rfl))) (mvT hZ302 (hw _ (List.mem_of_getElem? (i := 6) rfl))) (mvT hZ302 (hw _ (List.mem_of_getElem? (i := 35) rfl))) (by decide) (backOf (W := 3) (rm6 l Z ar0 hw [] v278 s_INT s_REAL s_BOOL s_STRING h318 n0 Z318 Sf320 Sf321 Sf322 Sf323) hZ302 (hw _ (List.mem_of_getElem? (i := 35) rfl)) (hw _ (List.mem_of_getElem? (i := 6) rfl)) (by decide) (by decide)) (g := (mkF m 156 #[.val (.int p0), .val (.int p1), .val (.int p2), .val (.int v248), .val (.int v251), .val (.int v254), .val (.int v260), .val (.int v266), .val (.int v274), .val (.int v278), .val (.int v284), .val (.int v287), .val (.ref b290), .val (.ref b302), .unset, .unset, .unset] [(.int v278), (.ref b290), (.ref b318), (.ref b318)])) rfl (by rw [hml]; rfl) (argsL := [(.int v278)]) (rest := [(.ref b290), (.ref b318), (.ref b318)]) (lenOf pd_10 rfl) rfl (by show 2 * 0 + _ ≤ _; exact Nat.le_of_eq rfl) (hb hby at_156) (fun _ _ => ⟨rfl, e318, (by decide : 13 + 0 ≤ _), (by decide : 26 + 0 ≤ _)⟩)
  dsimp only [Pt.U, Pt.locs, Pt.cells, Pt.slots] at X338 l338 y338 z338 st338 hQ338
  subst l338 y338 z338
  obtain ⟨rfl, N338q, e338⟩ := hQ338
  have N338 := Fr.app N302 N338q
  have pre339 : ∀ t, Steps p.tables e below (T338.setTop (mkF m 159 #[.val (.int p0), .val (.int p1), .val (.int p2), .val (.int v248), .val (.int v251), .val (.int v254), .val (.int v260), .val (.int v266), .val (.int v274), .val (.int v278), .val (.int v284), .val (.int v287), .val (.ref b290), .val (.ref b302), .unset, .unset, .unset] [(.ref (f6 v278 s_INT s_REAL s_BOOL s_STRING)), (.ref b290), (.ref b318), (.ref b318)])) t → Steps p.tables e below (s₁.setTop (entryFrame m #[(.int p0), (.int p1), (.int p2)] maxLocals)) t := fun t k => pre337 t (st338 t k)
  obtain ⟨o340, ho340⟩ : ∃ z : Addr, z = (f6 v278 s_INT s_REAL s_BOOL s_STRING) := ⟨_, rfl⟩
  have pre341 : ∀ t, Steps p.tables e below (T338.setTop (mkF m 159 #[.val (.int p0), .val (.int p1), .val (.int p2), .val (.int v248), .val (.int v251), .val (.int v254), .val (.int v260), .val (.int v266), .val (.int v274), .val (.int v278), .val (.int v284), .val (.int v287), .val (.ref b290), .val (.ref b302), .unset, .unset, .unset] [(.ref o340), (.ref b290), (.ref b318), (.ref b318)])) t → Steps p.tables e below (s₁.setTop (entryFrame m #[(.int p0), (.int p1), (.int p2)] maxLocals)) t := by rw [ho340]; exact pre339
  have E_o340 : Exa Z h318 o340 "com/example/oversee/oversee/model/Sort" := by rw [ho340]; exact own_dirE _ Ef324 Ef325 Ef326 Ef327
  obtain ⟨_, _, ⟨T342, L342, k342, n342⟩, -, X342r, hS342r, hg342r, ⟨Lc342, hQ342, l342, y342, z342⟩, st342⟩ := X338.specialBackS hx (y := (⟨"com/example/oversee/oversee/model/Variable", "<init>", "(Ljava/lang/String;Lcom/example/oversee/oversee/model/Sort;)V"⟩ : MethodName)) rfl ho302 (mvT hZ302 (hw _ (List.mem_of_getElem? (i := 39) rfl))) (mvT hZ302 (hw _ (List.mem_of_getElem? (i := 40) rfl))) (mvT hZ302 (hw _ (List.mem_of_getElem? (i := 41) rfl))) (by decide) (backOfS (W := 1) (rm7 l Z ar0 hw [] b318 b290 o340 .null .null h318 n0 Z318 Ef328 A318 E_o340 Fname_b318 Fsort_b318 g_b318) hZ302 (hw _ (List.mem_of_getElem? (i := 41) rfl)) (hw _ (List.mem_of_getElem? (i := 32) rfl)) (by decide) (by decide)) (g := (mkF m 159 #[.val (.int p0), .val (.int p1), .val (.int p2), .val (.int v248), .val (.int v251), .val (.int v254), .val (.int v260), .val (.int v266), .val (.int v274), .val (.int v278), .val (.int v284), .val (.int v287), .val (.ref b290), .val (.ref b302), .unset, .unset, .unset] [(.ref o340), (.ref b290), (.ref b318), (.ref b318)])) rfl (by rw [hml]; rfl) (Steps.refl _) (a := b318) (argsL := [(.ref b290), (.ref o340)]) (rest := [(.ref b318)]) (lenOf pd_11 rfl) rfl (by show 2 * 0 + _ ≤ _; exact Nat.le_of_eq rfl) (hb hby at_159) (fun _ _ => ⟨rfl, e338, (by decide : 13 + 4 ≤ _), (by decide : 26 + 40 ≤ _)⟩)
  dsimp only [Pt.U, Pt.locs, Pt.cells, Pt.slots] at X342r hS342r hg342r l342 y342 z342 st342 hQ342
  subst l342 y342 z342
  obtain ⟨X342, hS342, hZ342, ho342⟩ := rebS (s := s) (vm0 := T302.vm) (n1 := T338.heap.size) hS302 (by rw [e338]; first | exact hk318 | exact Nat.le_refl _) X342r hS342r hg342r hZ302 ho302
  obtain ⟨h342, e342⟩ : ∃ h, T342.heap = h := ⟨_, rfl⟩
  rw [e342] at hQ342
  obtain ⟨rfl, N342q, K342q, Q342_0, Q342_1, Q342_2⟩ := hQ342
  have N342 := Fr.app N338 N342q
  have Z342 : n0 ≤ h342.size := Nat.le_trans Z318 K342q.1
  have K342 : Keep h0 h342 [] := K318.trans K342q (fun x hx => by cases List.mem_singleton.mp hx; exact Or.inr sz_b318)
  have Sf343 : Sta Z h342 "java/lang/String" "COMPACT_STRINGS" "Z" (.int gc1) := own_sta_keep Sf319 K342q (own_ns1 (own_ns_exa A318))
  have Sf344 : Sta Z h342 "com/example/oversee/oversee/model/Sort" "INT" "Lcom/example/oversee/oversee/model/Sort;" (.ref s_INT) := own_sta_keep Sf320 K342q (own_ns1 (own_ns_exa A318))
  have Sf345 : Sta Z h342 "com/example/oversee/oversee/model/Sort" "REAL" "Lcom/example/oversee/oversee/model/Sort;" (.ref s_REAL) := own_sta_keep Sf321 K342q (own_ns1 (own_ns_exa A318))
  have Sf346 : Sta Z h342 "com/example/oversee/oversee/model/Sort" "BOOL" "Lcom/example/oversee/oversee/model/Sort;" (.ref s_BOOL) := own_sta_keep Sf322 K342q (own_ns1 (own_ns_exa A318))
  have Sf347 : Sta Z h342 "com/example/oversee/oversee/model/Sort" "STRING" "Lcom/example/oversee/oversee/model/Sort;" (.ref s_STRING) := own_sta_keep Sf323 K342q (own_ns1 (own_ns_exa A318))
  have Ef348 : Exa Z h342 s_INT "com/example/oversee/oversee/model/Sort" := (Ef324).keep K342q
  have Ef349 : Exa Z h342 s_REAL "com/example/oversee/oversee/model/Sort" := (Ef325).keep K342q
  have Ef350 : Exa Z h342 s_BOOL "com/example/oversee/oversee/model/Sort" := (Ef326).keep K342q
  have Ef351 : Exa Z h342 s_STRING "com/example/oversee/oversee/model/Sort" := (Ef327).keep K342q
  have Ef352 : Exa Z h342 b290 "java/lang/String" := (Ef328).keep K342q
  have Ff353 : Fld Z h342 b290 "java/lang/String" "value" "[B" (.ref b290b) := (Ff329).keep K342q (fun q => absurd (List.mem_singleton.mp q) ne_b290_b318)
  have Ff354 : Fld Z h342 b290 "java/lang/String" "coder" "B" (.int (0 : Int32)) := (Ff330).keep K342q (fun q => absurd (List.mem_singleton.mp q) ne_b290_b318)
  have Vf355 : Arv Z h342 b290b kb290b .byte (Int32.ofNat (own_cs v248 v251 v254).length) ((((own_cs v248 v251 v254) : List Int32).map (fun c => c.toInt8.toInt32)).map Value.int) (.int (0 : Int32)) := (Vf331).keep K342q (fun q => absurd (List.mem_singleton.mp q) ne_b290b_b318)
  have Ef356 : Exa Z h342 b302 "java/lang/String" := (Ef332).keep K342q
  have Ff357 : Fld Z h342 b302 "java/lang/String" "value" "[B" (.ref b302b) := (Ff333).keep K342q (fun q => absurd (List.mem_singleton.mp q) ne_b302_b318)
  have Ff358 : Fld Z h342 b302 "java/lang/String" "coder" "B" (.int (0 : Int32)) := (Ff334).keep K342q (fun q => absurd (List.mem_singleton.mp q) ne_b302_b318)
  have Vf359 : Arv Z h342 b302b kb302b .byte (Int32.ofNat (own_cs v274 v260 v266).length) ((((own_cs v274 v260 v266) : List Int32).map (fun c => c.toInt8.toInt32)).map Value.int) (.int (0 : Int32)) := (Vf335).keep K342q (fun q => absurd (List.mem_singleton.mp q) ne_b302b_b318)
  have Ef360 : Exa Z h342 b318 "com/example/oversee/oversee/model/Variable" := (A318).keep K342q
  have Ef361 : Exa Z h342 o340 "com/example/oversee/oversee/model/Sort" := (E_o340).keep K342q
  have hk342 : T342.heap.size ≤ h342.size := by rw [e342]; exact Nat.le_refl _
  have pre362 : ∀ t, Steps p.tables e below (T342.setTop (mkF m 162 #[.val (.int p0), .val (.int p1), .val (.int p2), .val (.int v248), .val (.int v251), .val (.int v254), .val (.int v260), .val (.int v266), .val (.int v274), .val (.int v278), .val (.int v284), .val (.int v287), .val (.ref b290), .val (.ref b302), .unset, .unset, .unset] [(.ref b318)])) t → Steps p.tables e below (s₁.setTop (entryFrame m #[(.int p0), (.int p1), (.int p2)] maxLocals)) t := fun t k => pre341 t (st342.trans k)
  have pre363 : ∀ t, Steps p.tables e below (T342.setTop (mkF m 164 #[.val (.int p0), .val (.int p1), .val (.int p2), .val (.int v248), .val (.int v251), .val (.int v254), .val (.int v260), .val (.int v266), .val (.int v274), .val (.int v278), .val (.int v284), .val (.int v287), .val (.ref b290), .val (.ref b302), .val (.ref b318), .unset, .unset] [])) t → Steps p.tables e below (s₁.setTop (entryFrame m #[(.int p0), (.int p1), (.int p2)] maxLocals)) t := by
    intro t k
    refine pre362 t ?_
    show Steps p.tables e below (T342.setTop (mkF m 162 #[.val (.int p0), .val (.int p1), .val (.int p2), .val (.int v248), .val (.int v251), .val (.int v254), .val (.int v260), .val (.int v266), .val (.int v274), .val (.int v278), .val (.int v284), .val (.int v287), .val (.ref b290), .val (.ref b302), .unset, .unset, .unset] [(.ref b318)])) _
    refine XS.astore X342.here hx rfl (hb hby at_162) rfl rfl (l' := #[.val (.int p0), .val (.int p1), .val (.int p2), .val (.int v248), .val (.int v251), .val (.int v254), .val (.int v260), .val (.int v266), .val (.int v274), .val (.int v278), .val (.int v284), .val (.int v287), .val (.ref b290), .val (.ref b302), .val (.ref b318), .unset, .unset]) rfl ?_
    exact k
  obtain ⟨T364, h364, X364, e364, E364, A364, D364, -, st364⟩ := newO X342 hx hZ342 ho342 (hw _ (List.mem_of_getElem? (i := 30) rfl)) (hw _ (List.mem_of_getElem? (i := 31) rfl)) (hw _ (List.mem_of_getElem? (i := 32) rfl)) e342 (g := (mkF m 164 #[.val (.int p0), .val (.int p1), .val (.int p2), .val (.int v248), .val (.int v251), .val (.int v254), .val (.int v260), .val (.int v266), .val (.int v274), .val (.int v278), .val (.int v284), .val (.int v287), .val (.ref b290), .val (.ref b302), .val (.ref b318), .unset, .unset] [])) rfl (hb hby at_164) (by decide) (by decide)
  obtain ⟨b364, g364⟩ : ∃ z, z = h342.size := ⟨_, rfl⟩
  rw [← g364] at A364 D364 st364
  have ne_s_INT_b364 : s_INT ≠ b364 := Nat.ne_of_lt (Nat.lt_of_lt_of_le (Ef348).lt (Nat.le_of_eq g364.symm))
  have ne_s_REAL_b364 : s_REAL ≠ b364 := Nat.ne_of_lt (Nat.lt_of_lt_of_le (Ef349).lt (Nat.le_of_eq g364.symm))
  have ne_s_BOOL_b364 : s_BOOL ≠ b364 := Nat.ne_of_lt (Nat.lt_of_lt_of_le (Ef350).lt (Nat.le_of_eq g364.symm))
  have ne_s_STRING_b364 : s_STRING ≠ b364 := Nat.ne_of_lt (Nat.lt_of_lt_of_le (Ef351).lt (Nat.le_of_eq g364.symm))
  have ne_b290_b364 : b290 ≠ b364 := Nat.ne_of_lt (Nat.lt_of_lt_of_le (Ef352).lt (Nat.le_of_eq g364.symm))
  have ne_b290b_b364 : b290b ≠ b364 := Nat.ne_of_lt (Nat.lt_of_lt_of_le (Vf355).lt (Nat.le_of_eq g364.symm))
  have ne_b302_b364 : b302 ≠ b364 := Nat.ne_of_lt (Nat.lt_of_lt_of_le (Ef356).lt (Nat.le_of_eq g364.symm))
  have ne_b302b_b364 : b302b ≠ b364 := Nat.ne_of_lt (Nat.lt_of_lt_of_le (Vf359).lt (Nat.le_of_eq g364.symm))
  have ne_b318_b364 : b318 ≠ b364 := Nat.ne_of_lt (Nat.lt_of_lt_of_le (Q342_0).lt (Nat.le_of_eq g364.symm))
  have ne_o340_b364 : o340 ≠ b364 := Nat.ne_of_lt (Nat.lt_of_lt_of_le (Ef361).lt (Nat.le_of_eq g364.symm))
  have g_b364 : n0 ≤ b364 := Nat.le_trans Z342 (Nat.le_of_eq g364.symm)
  have sz_b364 : h0.size ≤ b364 := Nat.le_trans K342.1 (Nat.le_of_eq g364.symm)
  have Z364 : n0 ≤ h364.size := Nat.le_trans Z342 E364.1
  have K364 : Keep h0 h364 [] := K342.ext E364
  have hk364 := Nat.le_trans hk342 E364.1
  have Sf365 : Sta Z h364 "java/lang/String" "COMPACT_STRINGS" "Z" (.int gc1) := (Sf343).ext E364
  have Sf366 : Sta Z h364 "com/example/oversee/oversee/model/Sort" "INT" "Lcom/example/oversee/oversee/model/Sort;" (.ref s_INT) := (Sf344).ext E364
  have Sf367 : Sta Z h364 "com/example/oversee/oversee/model/Sort" "REAL" "Lcom/example/oversee/oversee/model/Sort;" (.ref s_REAL) := (Sf345).ext E364
  have Sf368 : Sta Z h364 "com/example/oversee/oversee/model/Sort" "BOOL" "Lcom/example/oversee/oversee/model/Sort;" (.ref s_BOOL) := (Sf346).ext E364
  have Sf369 : Sta Z h364 "com/example/oversee/oversee/model/Sort" "STRING" "Lcom/example/oversee/oversee/model/Sort;" (.ref s_STRING) := (Sf347).ext E364
  have Ef370 : Exa Z h364 s_INT "com/example/oversee/oversee/model/Sort" := (Ef348).ext E364
  have Ef371 : Exa Z h364 s_REAL "com/example/oversee/oversee/model/Sort" := (Ef349).ext E364
  have Ef372 : Exa Z h364 s_BOOL "com/example/oversee/oversee/model/Sort" := (Ef350).ext E364
  have Ef373 : Exa Z h364 s_STRING "com/example/oversee/oversee/model/Sort" := (Ef351).ext E364
  have Ef374 : Exa Z h364 b290 "java/lang/String" := (Ef352).ext E364
  have Ff375 : Fld Z h364 b290 "java/lang/String" "value" "[B" (.ref b290b) := (Ff353).ext E364
  have Ff376 : Fld Z h364 b290 "java/lang/String" "coder" "B" (.int (0 : Int32)) := (Ff354).ext E364
  have Vf377 : Arv Z h364 b290b kb290b .byte (Int32.ofNat (own_cs v248 v251 v254).length) ((((own_cs v248 v251 v254) : List Int32).map (fun c => c.toInt8.toInt32)).map Value.int) (.int (0 : Int32)) := (Vf355).ext E364
  have Ef378 : Exa Z h364 b302 "java/lang/String" := (Ef356).ext E364
  have Ff379 : Fld Z h364 b302 "java/lang/String" "value" "[B" (.ref b302b) := (Ff357).ext E364
  have Ff380 : Fld Z h364 b302 "java/lang/String" "coder" "B" (.int (0 : Int32)) := (Ff358).ext E364
  have Vf381 : Arv Z h364 b302b kb302b .byte (Int32.ofNat (own_cs v274 v260 v266).length) ((((own_cs v274 v260 v266) : List Int32).map (fun c => c.toInt8.toInt32)).map Value.int) (.int (0 : Int32)) := (Vf359).ext E364
  have Ef382 : Exa Z h364 b318 "com/example/oversee/oversee/model/Variable" := (Q342_0).ext E364
  have Ef383 : Exa Z h364 o340 "com/example/oversee/oversee/model/Sort" := (Ef361).ext E364
  have Ff384 : Fld Z h364 b318 "com/example/oversee/oversee/model/Variable" "name" "Ljava/lang/String;" (.ref b290) := (Q342_1).ext E364
  have Ff385 : Fld Z h364 b318 "com/example/oversee/oversee/model/Variable" "sort" "Lcom/example/oversee/oversee/model/Sort;" (.ref o340) := (Q342_2).ext E364
  have Fname_b364 : Fld Z h364 b364 "com/example/oversee/oversee/model/Variable" "name" "Ljava/lang/String;" .null := D364 (Or.inr (hw _ (List.mem_of_getElem? (i := 50) rfl))) (ty := (.object "java/lang/String")) (by decide)
  have Fsort_b364 : Fld Z h364 b364 "com/example/oversee/oversee/model/Variable" "sort" "Lcom/example/oversee/oversee/model/Sort;" .null := D364 (Or.inr (hw _ (List.mem_of_getElem? (i := 55) rfl))) (ty := (.object "com/example/oversee/oversee/model/Sort")) (by decide)
  have pre386 : ∀ t, Steps p.tables e below (T364.setTop (mkF m 167 #[.val (.int p0), .val (.int p1), .val (.int p2), .val (.int v248), .val (.int v251), .val (.int v254), .val (.int v260), .val (.int v266), .val (.int v274), .val (.int v278), .val (.int v284), .val (.int v287), .val (.ref b290), .val (.ref b302), .val (.ref b318), .unset, .unset] [(.ref b364)])) t → Steps p.tables e below (s₁.setTop (entryFrame m #[(.int p0), (.int p1), (.int p2)] maxLocals)) t := fun t k => pre363 t (st364 t k)
  have pre387 : ∀ t, Steps p.tables e below (T364.setTop (mkF m 172 #[.val (.int p0), .val (.int p1), .val (.int p2), .val (.int v248), .val (.int v251), .val (.int v254), .val (.int v260), .val (.int v266), .val (.int v274), .val (.int v278), .val (.int v284), .val (.int v287), .val (.ref b290), .val (.ref b302), .val (.ref b318), .unset, .unset] [(.int v284), (.ref b302), (.ref b364), (.ref b364)])) t → Steps p.tables e below (s₁.setTop (entryFrame m #[(.int p0), (.int p1), (.int p2)] maxLocals)) t := by
    intro t k
    refine pre386 t ?_
    show Steps p.tables e below (T364.setTop (mkF m 167 #[.val (.int p0), .val (.int p1), .val (.int p2), .val (.int v248), .val (.int v251), .val (.int v254), .val (.int v260), .val (.int v266), .val (.int v274), .val (.int v278), .val (.int v284), .val (.int v287), .val (.ref b290), .val (.ref b302), .val (.ref b318), .unset, .unset] [(.ref b364)])) _
    refine XS.dup X364.here hx rfl (hb hby at_167) rfl rfl ?_
    refine XS.aload X364.here hx rfl (hb hby at_168) rfl rfl ?_
    refine XS.iload X364.here hx rfl (hb hby at_170) rfl ?_
    exact k
  obtain ⟨_, _, ⟨T388, L388, k388, n388⟩, -, X388, ⟨Lc388, hQ388, l388, y388, z388⟩, st388⟩ := Jvm.LawKit.callS X364 hx (y := (⟨"com/example/oversee/oversee/model/VariableEqualsPinLaw", "sortOf", "(I)Lcom/example/oversee/oversee/model/Sort;"⟩ : MethodName)) ho342 (mvT hZ342 (hw _ (List.mem_of_getElem? (i := 33) rfl))) (mvT hZ342 (hw _ (List.mem_of_getElem? (i := 34) rfl))) (mvT hZ342 (hw _ (List.mem_of_getElem? (i := 6) rfl))) (mvT hZ342 (hw _ (List.mem_of_getElem? (i := 35) rfl))) (by decide) (backOf (W := 3) (rm6 l Z ar0 hw [] v284 s_INT s_REAL s_BOOL s_STRING h364 n0 Z364 Sf366 Sf367 Sf368 Sf369) hZ342 (hw _ (List.mem_of_getElem? (i := 35) rfl)) (hw _ (List.mem_of_getElem? (i := 6) rfl)) (by decide) (by decide)) (g := (mkF m 172 #[.val (.int p0), .val (.int p1), .val (.int p2), .val (.int v248), .val (.int v251), .val (.int v254), .val (.int v260), .val (.int v266), .val (.int v274), .val (.int v278), .val (.int v284), .val (.int v287), .val (.ref b290), .val (.ref b302), .val (.ref b318), .unset, .unset] [(.int v284), (.ref b302), (.ref b364), (.ref b364)])) rfl (by rw [hml]; rfl) (argsL := [(.int v284)]) (rest := [(.ref b302), (.ref b364), (.ref b364)]) (lenOf pd_10 rfl) rfl (by show 2 * 0 + _ ≤ _; exact Nat.le_of_eq rfl) (hb hby at_172) (fun _ _ => ⟨rfl, e364, (by decide : 18 + 0 ≤ _), (by decide : 68 + 0 ≤ _)⟩)
  dsimp only [Pt.U, Pt.locs, Pt.cells, Pt.slots] at X388 l388 y388 z388 st388 hQ388
  subst l388 y388 z388
  obtain ⟨rfl, N388q, e388⟩ := hQ388
  have N388 := Fr.app N342 N388q
  have pre389 : ∀ t, Steps p.tables e below (T388.setTop (mkF m 175 #[.val (.int p0), .val (.int p1), .val (.int p2), .val (.int v248), .val (.int v251), .val (.int v254), .val (.int v260), .val (.int v266), .val (.int v274), .val (.int v278), .val (.int v284), .val (.int v287), .val (.ref b290), .val (.ref b302), .val (.ref b318), .unset, .unset] [(.ref (f6 v284 s_INT s_REAL s_BOOL s_STRING)), (.ref b302), (.ref b364), (.ref b364)])) t → Steps p.tables e below (s₁.setTop (entryFrame m #[(.int p0), (.int p1), (.int p2)] maxLocals)) t := fun t k => pre387 t (st388 t k)
  obtain ⟨o390, ho390⟩ : ∃ z : Addr, z = (f6 v284 s_INT s_REAL s_BOOL s_STRING) := ⟨_, rfl⟩
  have pre391 : ∀ t, Steps p.tables e below (T388.setTop (mkF m 175 #[.val (.int p0), .val (.int p1), .val (.int p2), .val (.int v248), .val (.int v251), .val (.int v254), .val (.int v260), .val (.int v266), .val (.int v274), .val (.int v278), .val (.int v284), .val (.int v287), .val (.ref b290), .val (.ref b302), .val (.ref b318), .unset, .unset] [(.ref o390), (.ref b302), (.ref b364), (.ref b364)])) t → Steps p.tables e below (s₁.setTop (entryFrame m #[(.int p0), (.int p1), (.int p2)] maxLocals)) t := by rw [ho390]; exact pre389
  have E_o390 : Exa Z h364 o390 "com/example/oversee/oversee/model/Sort" := by rw [ho390]; exact own_dirE _ Ef370 Ef371 Ef372 Ef373
  obtain ⟨_, _, ⟨T392, L392, k392, n392⟩, -, X392r, hS392r, hg392r, ⟨Lc392, hQ392, l392, y392, z392⟩, st392⟩ := X388.specialBackS hx (y := (⟨"com/example/oversee/oversee/model/Variable", "<init>", "(Ljava/lang/String;Lcom/example/oversee/oversee/model/Sort;)V"⟩ : MethodName)) rfl ho342 (mvT hZ342 (hw _ (List.mem_of_getElem? (i := 39) rfl))) (mvT hZ342 (hw _ (List.mem_of_getElem? (i := 40) rfl))) (mvT hZ342 (hw _ (List.mem_of_getElem? (i := 41) rfl))) (by decide) (backOfS (W := 1) (rm7 l Z ar0 hw [] b364 b302 o390 .null .null h364 n0 Z364 Ef378 A364 E_o390 Fname_b364 Fsort_b364 g_b364) hZ342 (hw _ (List.mem_of_getElem? (i := 41) rfl)) (hw _ (List.mem_of_getElem? (i := 32) rfl)) (by decide) (by decide)) (g := (mkF m 175 #[.val (.int p0), .val (.int p1), .val (.int p2), .val (.int v248), .val (.int v251), .val (.int v254), .val (.int v260), .val (.int v266), .val (.int v274), .val (.int v278), .val (.int v284), .val (.int v287), .val (.ref b290), .val (.ref b302), .val (.ref b318), .unset, .unset] [(.ref o390), (.ref b302), (.ref b364), (.ref b364)])) rfl (by rw [hml]; rfl) (Steps.refl _) (a := b364) (argsL := [(.ref b302), (.ref o390)]) (rest := [(.ref b364)]) (lenOf pd_11 rfl) rfl (by show 2 * 0 + _ ≤ _; exact Nat.le_of_eq rfl) (hb hby at_175) (fun _ _ => ⟨rfl, e388, (by decide : 18 + 4 ≤ _), (by decide : 68 + 40 ≤ _)⟩)
  dsimp only [Pt.U, Pt.locs, Pt.cells, Pt.slots] at X392r hS392r hg392r l392 y392 z392 st392 hQ392
  subst l392 y392 z392
  obtain ⟨X392, hS392, hZ392, ho392⟩ := rebS (s := s) (vm0 := T342.vm) (n1 := T388.heap.size) hS342 (by rw [e388]; first | exact hk364 | exact Nat.le_refl _) X392r hS392r hg392r hZ342 ho342
  obtain ⟨h392, e392⟩ : ∃ h, T392.heap = h := ⟨_, rfl⟩
  rw [e392] at hQ392
  obtain ⟨rfl, N392q, K392q, Q392_0, Q392_1, Q392_2⟩ := hQ392
  have N392 := Fr.app N388 N392q
  have Z392 : n0 ≤ h392.size := Nat.le_trans Z364 K392q.1
  have K392 : Keep h0 h392 [] := K364.trans K392q (fun x hx => by cases List.mem_singleton.mp hx; exact Or.inr sz_b364)
  have Sf393 : Sta Z h392 "java/lang/String" "COMPACT_STRINGS" "Z" (.int gc1) := own_sta_keep Sf365 K392q (own_ns1 (own_ns_exa A364))
  have Sf394 : Sta Z h392 "com/example/oversee/oversee/model/Sort" "INT" "Lcom/example/oversee/oversee/model/Sort;" (.ref s_INT) := own_sta_keep Sf366 K392q (own_ns1 (own_ns_exa A364))
  have Sf395 : Sta Z h392 "com/example/oversee/oversee/model/Sort" "REAL" "Lcom/example/oversee/oversee/model/Sort;" (.ref s_REAL) := own_sta_keep Sf367 K392q (own_ns1 (own_ns_exa A364))
  have Sf396 : Sta Z h392 "com/example/oversee/oversee/model/Sort" "BOOL" "Lcom/example/oversee/oversee/model/Sort;" (.ref s_BOOL) := own_sta_keep Sf368 K392q (own_ns1 (own_ns_exa A364))
  have Sf397 : Sta Z h392 "com/example/oversee/oversee/model/Sort" "STRING" "Lcom/example/oversee/oversee/model/Sort;" (.ref s_STRING) := own_sta_keep Sf369 K392q (own_ns1 (own_ns_exa A364))
  have Ef398 : Exa Z h392 s_INT "com/example/oversee/oversee/model/Sort" := (Ef370).keep K392q
  have Ef399 : Exa Z h392 s_REAL "com/example/oversee/oversee/model/Sort" := (Ef371).keep K392q
  have Ef400 : Exa Z h392 s_BOOL "com/example/oversee/oversee/model/Sort" := (Ef372).keep K392q
  have Ef401 : Exa Z h392 s_STRING "com/example/oversee/oversee/model/Sort" := (Ef373).keep K392q
  have Ef402 : Exa Z h392 b290 "java/lang/String" := (Ef374).keep K392q
  have Ff403 : Fld Z h392 b290 "java/lang/String" "value" "[B" (.ref b290b) := (Ff375).keep K392q (fun q => absurd (List.mem_singleton.mp q) ne_b290_b364)
  have Ff404 : Fld Z h392 b290 "java/lang/String" "coder" "B" (.int (0 : Int32)) := (Ff376).keep K392q (fun q => absurd (List.mem_singleton.mp q) ne_b290_b364)
  have Vf405 : Arv Z h392 b290b kb290b .byte (Int32.ofNat (own_cs v248 v251 v254).length) ((((own_cs v248 v251 v254) : List Int32).map (fun c => c.toInt8.toInt32)).map Value.int) (.int (0 : Int32)) := (Vf377).keep K392q (fun q => absurd (List.mem_singleton.mp q) ne_b290b_b364)
  have Ef406 : Exa Z h392 b302 "java/lang/String" := (Ef378).keep K392q
  have Ff407 : Fld Z h392 b302 "java/lang/String" "value" "[B" (.ref b302b) := (Ff379).keep K392q (fun q => absurd (List.mem_singleton.mp q) ne_b302_b364)
  have Ff408 : Fld Z h392 b302 "java/lang/String" "coder" "B" (.int (0 : Int32)) := (Ff380).keep K392q (fun q => absurd (List.mem_singleton.mp q) ne_b302_b364)
  have Vf409 : Arv Z h392 b302b kb302b .byte (Int32.ofNat (own_cs v274 v260 v266).length) ((((own_cs v274 v260 v266) : List Int32).map (fun c => c.toInt8.toInt32)).map Value.int) (.int (0 : Int32)) := (Vf381).keep K392q (fun q => absurd (List.mem_singleton.mp q) ne_b302b_b364)
  have Ef410 : Exa Z h392 b318 "com/example/oversee/oversee/model/Variable" := (Ef382).keep K392q
  have Ef411 : Exa Z h392 o340 "com/example/oversee/oversee/model/Sort" := (Ef383).keep K392q
  have Ff412 : Fld Z h392 b318 "com/example/oversee/oversee/model/Variable" "name" "Ljava/lang/String;" (.ref b290) := (Ff384).keep K392q (fun q => absurd (List.mem_singleton.mp q) ne_b318_b364)
  have Ff413 : Fld Z h392 b318 "com/example/oversee/oversee/model/Variable" "sort" "Lcom/example/oversee/oversee/model/Sort;" (.ref o340) := (Ff385).keep K392q (fun q => absurd (List.mem_singleton.mp q) ne_b318_b364)
  have Ef414 : Exa Z h392 b364 "com/example/oversee/oversee/model/Variable" := (A364).keep K392q
  have Ef415 : Exa Z h392 o390 "com/example/oversee/oversee/model/Sort" := (E_o390).keep K392q
  have hk392 : T392.heap.size ≤ h392.size := by rw [e392]; exact Nat.le_refl _
  have pre416 : ∀ t, Steps p.tables e below (T392.setTop (mkF m 178 #[.val (.int p0), .val (.int p1), .val (.int p2), .val (.int v248), .val (.int v251), .val (.int v254), .val (.int v260), .val (.int v266), .val (.int v274), .val (.int v278), .val (.int v284), .val (.int v287), .val (.ref b290), .val (.ref b302), .val (.ref b318), .unset, .unset] [(.ref b364)])) t → Steps p.tables e below (s₁.setTop (entryFrame m #[(.int p0), (.int p1), (.int p2)] maxLocals)) t := fun t k => pre391 t (st392.trans k)
  have pre417 : ∀ t, Steps p.tables e below (T392.setTop (mkF m 182 #[.val (.int p0), .val (.int p1), .val (.int p2), .val (.int v248), .val (.int v251), .val (.int v254), .val (.int v260), .val (.int v266), .val (.int v274), .val (.int v278), .val (.int v284), .val (.int v287), .val (.ref b290), .val (.ref b302), .val (.ref b318), .val (.ref b364), .unset] [(.int v287)])) t → Steps p.tables e below (s₁.setTop (entryFrame m #[(.int p0), (.int p1), (.int p2)] maxLocals)) t := by
    intro t k
    refine pre416 t ?_
    show Steps p.tables e below (T392.setTop (mkF m 178 #[.val (.int p0), .val (.int p1), .val (.int p2), .val (.int v248), .val (.int v251), .val (.int v254), .val (.int v260), .val (.int v266), .val (.int v274), .val (.int v278), .val (.int v284), .val (.int v287), .val (.ref b290), .val (.ref b302), .val (.ref b318), .unset, .unset] [(.ref b364)])) _
    refine XS.astore X392.here hx rfl (hb hby at_178) rfl rfl (l' := #[.val (.int p0), .val (.int p1), .val (.int p2), .val (.int v248), .val (.int v251), .val (.int v254), .val (.int v260), .val (.int v266), .val (.int v274), .val (.int v278), .val (.int v284), .val (.int v287), .val (.ref b290), .val (.ref b302), .val (.ref b318), .val (.ref b364), .unset]) rfl ?_
    refine XS.iload X392.here hx rfl (hb hby at_180) rfl ?_
    exact k
  by_cases hc182_418 : v287 = (0 : Int32)
  · have pre419 : ∀ t, Steps p.tables e below (T392.setTop (mkF m 189 #[.val (.int p0), .val (.int p1), .val (.int p2), .val (.int v248), .val (.int v251), .val (.int v254), .val (.int v260), .val (.int v266), .val (.int v274), .val (.int v278), .val (.int v284), .val (.int v287), .val (.ref b290), .val (.ref b302), .val (.ref b318), .val (.ref b364), .unset] [(.ref b318), (.ref b318)])) t → Steps p.tables e below (s₁.setTop (entryFrame m #[(.int p0), (.int p1), (.int p2)] maxLocals)) t := by
      intro t k
      refine pre417 t ?_
      show Steps p.tables e below (T392.setTop (mkF m 182 #[.val (.int p0), .val (.int p1), .val (.int p2), .val (.int v248), .val (.int v251), .val (.int v254), .val (.int v260), .val (.int v266), .val (.int v274), .val (.int v278), .val (.int v284), .val (.int v287), .val (.ref b290), .val (.ref b302), .val (.ref b318), .val (.ref b364), .unset] [(.int v287)])) _
      refine XS.ifNo X392.here hx rfl (hb hby at_182) rfl ((if0 _ _).trans (teq hc182_418).2) ?_
      refine XS.aload X392.here hx rfl (hb hby at_185) rfl rfl ?_
      refine XS.aload X392.here hx rfl (hb hby at_187) rfl rfl ?_
      exact k
    obtain ⟨cq420, kq420, q420a, q420b, q420c⟩ := isOf hZ392 e392 Ef410
    obtain ⟨_, _, ⟨T420, L420, k420, n420⟩, -, X420, ⟨Lc420, hQ420, l420, y420, z420⟩, st420⟩ := X392.virtualBack hx (y := (⟨"com/example/oversee/oversee/model/Variable", "equals", "(Ljava/lang/Object;)Z"⟩ : MethodName)) (z := (⟨"com/example/oversee/oversee/model/Variable", "equals", "(Ljava/lang/Object;)Z"⟩ : MethodName)) ho392 (mvT hZ392 (hw _ (List.mem_of_getElem? (i := 56) rfl))) (mvT hZ392 (hw _ (List.mem_of_getElem? (i := 57) rfl))) (notFace_of_selects (args := #[]) (mvT hZ392 (hw _ (List.mem_of_getElem? (i := 59) rfl)))) (mvT hZ392 (hw _ (List.mem_of_getElem? (i := 59) rfl))) (mvT hZ392 (hw _ (List.mem_of_getElem? (i := 58) rfl))) (by decide) (backOf (W := 0) (rm9_s l Z ar0 hw [] b318 h392 n0 Z392) hZ392 (hw _ (List.mem_of_getElem? (i := 60) rfl)) (hw _ (List.mem_of_getElem? (i := 32) rfl)) (by decide) (by decide)) q420a q420c (g := (mkF m 189 #[.val (.int p0), .val (.int p1), .val (.int p2), .val (.int v248), .val (.int v251), .val (.int v254), .val (.int v260), .val (.int v266), .val (.int v274), .val (.int v278), .val (.int v284), .val (.int v287), .val (.ref b290), .val (.ref b302), .val (.ref b318), .val (.ref b364), .unset] [(.ref b318), (.ref b318)])) rfl (by rw [hml]; rfl) (Steps.refl _) (argsL := [(.ref b318)]) (rest := []) (lenOf pd_7 rfl) rfl (by show 2 * 0 + _ ≤ _; exact Nat.le_of_eq rfl) (hb hby at_189) (fun _ _ => ⟨rfl, e392, (by decide : 22 + 0 ≤ _), (by decide : 108 + 0 ≤ _)⟩)
    dsimp only [Pt.U, Pt.locs, Pt.cells, Pt.slots] at X420 l420 y420 z420 st420 hQ420
    subst l420 y420 z420
    obtain ⟨rfl, N420q, e420⟩ := hQ420
    have N420 := Fr.app N392 N420q
    have pre421 : ∀ t, Steps p.tables e below (T420.setTop (mkF m 192 #[.val (.int p0), .val (.int p1), .val (.int p2), .val (.int v248), .val (.int v251), .val (.int v254), .val (.int v260), .val (.int v266), .val (.int v274), .val (.int v278), .val (.int v284), .val (.int v287), .val (.ref b290), .val (.ref b302), .val (.ref b318), .val (.ref b364), .unset] [(.int (1 : Int32))])) t → Steps p.tables e below (s₁.setTop (entryFrame m #[(.int p0), (.int p1), (.int p2)] maxLocals)) t := fun t k => pre419 t (st420.trans k)
    obtain ⟨fs, hr, hrun, hended, hRW⟩ := X420.leaveW (s := s) (vm₁ := T392.vm) hS392 (by rw [e420]; first | exact hk392 | exact Nat.le_refl _) (v := some (.int (1 : Int32))) (fun h => by rw [Bd.returns] at h; cases h)
    refine ⟨_, _, pre421 _ ?_, hrun, hended, _, _, rfl, ?_, hRW.1, hRW.2.1, hRW.2.2.1, hRW.2.2.2.mono (by decide) (by decide)⟩
    · show Steps p.tables e below (T420.setTop (mkF m 192 #[.val (.int p0), .val (.int p1), .val (.int p2), .val (.int v248), .val (.int v251), .val (.int v254), .val (.int v260), .val (.int v266), .val (.int v274), .val (.int v278), .val (.int v284), .val (.int v287), .val (.ref b290), .val (.ref b302), .val (.ref b318), .val (.ref b364), .unset] [(.int (1 : Int32))])) _
      exact retN X420 hx (t := .boolean) Bd.returns (by simp) (hb hby at_192) hr
    · show Q0 Z p0 p1 p2 gc1 s_INT s_REAL s_BOOL s_STRING h0 n0 _ T420.heap _
      rw [e420]
      exact ⟨rfl, N420⟩
  · have pre422 : ∀ t, Steps p.tables e below (T392.setTop (mkF m 196 #[.val (.int p0), .val (.int p1), .val (.int p2), .val (.int v248), .val (.int v251), .val (.int v254), .val (.int v260), .val (.int v266), .val (.int v274), .val (.int v278), .val (.int v284), .val (.int v287), .val (.ref b290), .val (.ref b302), .val (.ref b318), .val (.ref b364), .unset] [(.int (1 : Int32)), (.int v287)])) t → Steps p.tables e below (s₁.setTop (entryFrame m #[(.int p0), (.int p1), (.int p2)] maxLocals)) t := by
      intro t k
      refine pre417 t ?_
      show Steps p.tables e below (T392.setTop (mkF m 182 #[.val (.int p0), .val (.int p1), .val (.int p2), .val (.int v248), .val (.int v251), .val (.int v254), .val (.int v260), .val (.int v266), .val (.int v274), .val (.int v278), .val (.int v284), .val (.int v287), .val (.ref b290), .val (.ref b302), .val (.ref b318), .val (.ref b364), .unset] [(.int v287)])) _
      refine XS.ifYes X392.here hx rfl (pc0 := 182) (pc' := 193) rfl (hb hby at_182) rfl ((if0 _ _).trans (feq hc182_418).2) (by decide) (by decide) ?_
      refine XS.iload X392.here hx rfl (hb hby at_193) rfl ?_
      refine XS.iconst X392.here hx rfl (hb hby at_195) ?_
      exact k
    by_cases hc196_423 : v287 = (1 : Int32)
    · have pre424 : ∀ t, Steps p.tables e below (T392.setTop (mkF m 202 #[.val (.int p0), .val (.int p1), .val (.int p2), .val (.int v248), .val (.int v251), .val (.int v254), .val (.int v260), .val (.int v266), .val (.int v274), .val (.int v278), .val (.int v284), .val (.int v287), .val (.ref b290), .val (.ref b302), .val (.ref b318), .val (.ref b364), .unset] [.null, (.ref b318)])) t → Steps p.tables e below (s₁.setTop (entryFrame m #[(.int p0), (.int p1), (.int p2)] maxLocals)) t := by
        intro t k
        refine pre422 t ?_
        show Steps p.tables e below (T392.setTop (mkF m 196 #[.val (.int p0), .val (.int p1), .val (.int p2), .val (.int v248), .val (.int v251), .val (.int v254), .val (.int v260), .val (.int v266), .val (.int v274), .val (.int v278), .val (.int v284), .val (.int v287), .val (.ref b290), .val (.ref b302), .val (.ref b318), .val (.ref b364), .unset] [(.int (1 : Int32)), (.int v287)])) _
        refine XS.icmpNo X392.here hx rfl (hb hby at_196) rfl (teq hc196_423).2 ?_
        refine XS.aload X392.here hx rfl (hb hby at_199) rfl rfl ?_
        refine XS.aconstNull X392.here hx rfl (hb hby at_201) ?_
        exact k
      obtain ⟨cq425, kq425, q425a, q425b, q425c⟩ := isOf hZ392 e392 Ef410
      obtain ⟨_, _, ⟨T425, L425, k425, n425⟩, -, X425, ⟨Lc425, hQ425, l425, y425, z425⟩, st425⟩ := X392.virtualBack hx (y := (⟨"com/example/oversee/oversee/model/Variable", "equals", "(Ljava/lang/Object;)Z"⟩ : MethodName)) (z := (⟨"com/example/oversee/oversee/model/Variable", "equals", "(Ljava/lang/Object;)Z"⟩ : MethodName)) ho392 (mvT hZ392 (hw _ (List.mem_of_getElem? (i := 56) rfl))) (mvT hZ392 (hw _ (List.mem_of_getElem? (i := 57) rfl))) (notFace_of_selects (args := #[]) (mvT hZ392 (hw _ (List.mem_of_getElem? (i := 59) rfl)))) (mvT hZ392 (hw _ (List.mem_of_getElem? (i := 59) rfl))) (mvT hZ392 (hw _ (List.mem_of_getElem? (i := 58) rfl))) (by decide) (backOf (W := 0) (rm9_n l Z ar0 hw [] b318 h392 n0 Z392) hZ392 (hw _ (List.mem_of_getElem? (i := 60) rfl)) (hw _ (List.mem_of_getElem? (i := 32) rfl)) (by decide) (by decide)) q425a q425c (g := (mkF m 202 #[.val (.int p0), .val (.int p1), .val (.int p2), .val (.int v248), .val (.int v251), .val (.int v254), .val (.int v260), .val (.int v266), .val (.int v274), .val (.int v278), .val (.int v284), .val (.int v287), .val (.ref b290), .val (.ref b302), .val (.ref b318), .val (.ref b364), .unset] [.null, (.ref b318)])) rfl (by rw [hml]; rfl) (Steps.refl _) (argsL := [.null]) (rest := []) (lenOf pd_7 rfl) rfl (by show 2 * 0 + _ ≤ _; exact Nat.le_of_eq rfl) (hb hby at_202) (fun _ _ => ⟨rfl, e392, (by decide : 22 + 0 ≤ _), (by decide : 108 + 0 ≤ _)⟩)
      dsimp only [Pt.U, Pt.locs, Pt.cells, Pt.slots] at X425 l425 y425 z425 st425 hQ425
      subst l425 y425 z425
      obtain ⟨rfl, N425q, e425⟩ := hQ425
      have N425 := Fr.app N392 N425q
      have pre426 : ∀ t, Steps p.tables e below (T425.setTop (mkF m 205 #[.val (.int p0), .val (.int p1), .val (.int p2), .val (.int v248), .val (.int v251), .val (.int v254), .val (.int v260), .val (.int v266), .val (.int v274), .val (.int v278), .val (.int v284), .val (.int v287), .val (.ref b290), .val (.ref b302), .val (.ref b318), .val (.ref b364), .unset] [(.int (0 : Int32))])) t → Steps p.tables e below (s₁.setTop (entryFrame m #[(.int p0), (.int p1), (.int p2)] maxLocals)) t := fun t k => pre424 t (st425.trans k)
      obtain ⟨fs, hr, hrun, hended, hRW⟩ := X425.leaveW (s := s) (vm₁ := T392.vm) hS392 (by rw [e425]; first | exact hk392 | exact Nat.le_refl _) (v := some (.int (1 : Int32))) (fun h => by rw [Bd.returns] at h; cases h)
      refine ⟨_, _, pre426 _ ?_, hrun, hended, _, _, rfl, ?_, hRW.1, hRW.2.1, hRW.2.2.1, hRW.2.2.2.mono (by decide) (by decide)⟩
      · show Steps p.tables e below (T425.setTop (mkF m 205 #[.val (.int p0), .val (.int p1), .val (.int p2), .val (.int v248), .val (.int v251), .val (.int v254), .val (.int v260), .val (.int v266), .val (.int v274), .val (.int v278), .val (.int v284), .val (.int v287), .val (.ref b290), .val (.ref b302), .val (.ref b318), .val (.ref b364), .unset] [(.int (0 : Int32))])) _
        refine XS.ifNo X425.here hx rfl (hb hby at_205) rfl ((if0 _ _).trans (teq (by decide : (0 : Int32) = (0 : Int32))).2) ?_
        refine XS.iconst X425.here hx rfl (hb hby at_208) ?_
        refine XS.goto X425.here hx rfl (pc0 := 209) (pc' := 213) rfl (hb hby at_209) (by decide) (by decide) ?_
        exact retN X425 hx (t := .boolean) Bd.returns (by simp) (hb hby at_213) hr
      · show Q0 Z p0 p1 p2 gc1 s_INT s_REAL s_BOOL s_STRING h0 n0 _ T425.heap _
        rw [e425]
        exact ⟨rfl, N425⟩
    · have pre427 : ∀ t, Steps p.tables e below (T392.setTop (mkF m 217 #[.val (.int p0), .val (.int p1), .val (.int p2), .val (.int v248), .val (.int v251), .val (.int v254), .val (.int v260), .val (.int v266), .val (.int v274), .val (.int v278), .val (.int v284), .val (.int v287), .val (.ref b290), .val (.ref b302), .val (.ref b318), .val (.ref b364), .unset] [(.int (2 : Int32)), (.int v287)])) t → Steps p.tables e below (s₁.setTop (entryFrame m #[(.int p0), (.int p1), (.int p2)] maxLocals)) t := by
        intro t k
        refine pre422 t ?_
        show Steps p.tables e below (T392.setTop (mkF m 196 #[.val (.int p0), .val (.int p1), .val (.int p2), .val (.int v248), .val (.int v251), .val (.int v254), .val (.int v260), .val (.int v266), .val (.int v274), .val (.int v278), .val (.int v284), .val (.int v287), .val (.ref b290), .val (.ref b302), .val (.ref b318), .val (.ref b364), .unset] [(.int (1 : Int32)), (.int v287)])) _
        refine XS.icmpYes X392.here hx rfl (pc0 := 196) (pc' := 214) rfl (hb hby at_196) rfl (feq hc196_423).2 (by decide) (by decide) ?_
        refine XS.iload X392.here hx rfl (hb hby at_214) rfl ?_
        refine XS.iconst X392.here hx rfl (hb hby at_216) ?_
        exact k
      by_cases hc217_428 : v287 = (2 : Int32)
      · have pre429 : ∀ t, Steps p.tables e below (T392.setTop (mkF m 224 #[.val (.int p0), .val (.int p1), .val (.int p2), .val (.int v248), .val (.int v251), .val (.int v254), .val (.int v260), .val (.int v266), .val (.int v274), .val (.int v278), .val (.int v284), .val (.int v287), .val (.ref b290), .val (.ref b302), .val (.ref b318), .val (.ref b364), .unset] [(.ref b290), (.ref b318)])) t → Steps p.tables e below (s₁.setTop (entryFrame m #[(.int p0), (.int p1), (.int p2)] maxLocals)) t := by
          intro t k
          refine pre427 t ?_
          show Steps p.tables e below (T392.setTop (mkF m 217 #[.val (.int p0), .val (.int p1), .val (.int p2), .val (.int v248), .val (.int v251), .val (.int v254), .val (.int v260), .val (.int v266), .val (.int v274), .val (.int v278), .val (.int v284), .val (.int v287), .val (.ref b290), .val (.ref b302), .val (.ref b318), .val (.ref b364), .unset] [(.int (2 : Int32)), (.int v287)])) _
          refine XS.icmpNo X392.here hx rfl (hb hby at_217) rfl (teq hc217_428).2 ?_
          refine XS.aload X392.here hx rfl (hb hby at_220) rfl rfl ?_
          refine XS.aload X392.here hx rfl (hb hby at_222) rfl rfl ?_
          exact k
        obtain ⟨cq430, kq430, q430a, q430b, q430c⟩ := isOf hZ392 e392 Ef410
        obtain ⟨_, _, ⟨T430, L430, k430, n430⟩, -, X430, ⟨Lc430, hQ430, l430, y430, z430⟩, st430⟩ := X392.virtualBack hx (y := (⟨"com/example/oversee/oversee/model/Variable", "equals", "(Ljava/lang/Object;)Z"⟩ : MethodName)) (z := (⟨"com/example/oversee/oversee/model/Variable", "equals", "(Ljava/lang/Object;)Z"⟩ : MethodName)) ho392 (mvT hZ392 (hw _ (List.mem_of_getElem? (i := 56) rfl))) (mvT hZ392 (hw _ (List.mem_of_getElem? (i := 57) rfl))) (notFace_of_selects (args := #[]) (mvT hZ392 (hw _ (List.mem_of_getElem? (i := 59) rfl)))) (mvT hZ392 (hw _ (List.mem_of_getElem? (i := 59) rfl))) (mvT hZ392 (hw _ (List.mem_of_getElem? (i := 58) rfl))) (by decide) (backOf (W := 0) (rm9_l l Z ar0 hw [] b318 b290 h392 n0 Z392 ne_b290_b318.symm Ef402) hZ392 (hw _ (List.mem_of_getElem? (i := 60) rfl)) (hw _ (List.mem_of_getElem? (i := 32) rfl)) (by decide) (by decide)) q430a q430c (g := (mkF m 224 #[.val (.int p0), .val (.int p1), .val (.int p2), .val (.int v248), .val (.int v251), .val (.int v254), .val (.int v260), .val (.int v266), .val (.int v274), .val (.int v278), .val (.int v284), .val (.int v287), .val (.ref b290), .val (.ref b302), .val (.ref b318), .val (.ref b364), .unset] [(.ref b290), (.ref b318)])) rfl (by rw [hml]; rfl) (Steps.refl _) (argsL := [(.ref b290)]) (rest := []) (lenOf pd_7 rfl) rfl (by show 2 * 0 + _ ≤ _; exact Nat.le_of_eq rfl) (hb hby at_224) (fun _ _ => ⟨rfl, e392, (by decide : 22 + 0 ≤ _), (by decide : 108 + 0 ≤ _)⟩)
        dsimp only [Pt.U, Pt.locs, Pt.cells, Pt.slots] at X430 l430 y430 z430 st430 hQ430
        subst l430 y430 z430
        obtain ⟨rfl, N430q, e430⟩ := hQ430
        have N430 := Fr.app N392 N430q
        have pre431 : ∀ t, Steps p.tables e below (T430.setTop (mkF m 227 #[.val (.int p0), .val (.int p1), .val (.int p2), .val (.int v248), .val (.int v251), .val (.int v254), .val (.int v260), .val (.int v266), .val (.int v274), .val (.int v278), .val (.int v284), .val (.int v287), .val (.ref b290), .val (.ref b302), .val (.ref b318), .val (.ref b364), .unset] [(.int (0 : Int32))])) t → Steps p.tables e below (s₁.setTop (entryFrame m #[(.int p0), (.int p1), (.int p2)] maxLocals)) t := fun t k => pre429 t (st430.trans k)
        obtain ⟨fs, hr, hrun, hended, hRW⟩ := X430.leaveW (s := s) (vm₁ := T392.vm) hS392 (by rw [e430]; first | exact hk392 | exact Nat.le_refl _) (v := some (.int (1 : Int32))) (fun h => by rw [Bd.returns] at h; cases h)
        refine ⟨_, _, pre431 _ ?_, hrun, hended, _, _, rfl, ?_, hRW.1, hRW.2.1, hRW.2.2.1, hRW.2.2.2.mono (by decide) (by decide)⟩
        · show Steps p.tables e below (T430.setTop (mkF m 227 #[.val (.int p0), .val (.int p1), .val (.int p2), .val (.int v248), .val (.int v251), .val (.int v254), .val (.int v260), .val (.int v266), .val (.int v274), .val (.int v278), .val (.int v284), .val (.int v287), .val (.ref b290), .val (.ref b302), .val (.ref b318), .val (.ref b364), .unset] [(.int (0 : Int32))])) _
          refine XS.ifNo X430.here hx rfl (hb hby at_227) rfl ((if0 _ _).trans (teq (by decide : (0 : Int32) = (0 : Int32))).2) ?_
          refine XS.iconst X430.here hx rfl (hb hby at_230) ?_
          refine XS.goto X430.here hx rfl (pc0 := 231) (pc' := 235) rfl (hb hby at_231) (by decide) (by decide) ?_
          exact retN X430 hx (t := .boolean) Bd.returns (by simp) (hb hby at_235) hr
        · show Q0 Z p0 p1 p2 gc1 s_INT s_REAL s_BOOL s_STRING h0 n0 _ T430.heap _
          rw [e430]
          exact ⟨rfl, N430⟩
      · have pre432 : ∀ t, Steps p.tables e below (T392.setTop (mkF m 239 #[.val (.int p0), .val (.int p1), .val (.int p2), .val (.int v248), .val (.int v251), .val (.int v254), .val (.int v260), .val (.int v266), .val (.int v274), .val (.int v278), .val (.int v284), .val (.int v287), .val (.ref b290), .val (.ref b302), .val (.ref b318), .val (.ref b364), .unset] [(.int v274), (.int v248)])) t → Steps p.tables e below (s₁.setTop (entryFrame m #[(.int p0), (.int p1), (.int p2)] maxLocals)) t := by
          intro t k
          refine pre427 t ?_
          show Steps p.tables e below (T392.setTop (mkF m 217 #[.val (.int p0), .val (.int p1), .val (.int p2), .val (.int v248), .val (.int v251), .val (.int v254), .val (.int v260), .val (.int v266), .val (.int v274), .val (.int v278), .val (.int v284), .val (.int v287), .val (.ref b290), .val (.ref b302), .val (.ref b318), .val (.ref b364), .unset] [(.int (2 : Int32)), (.int v287)])) _
          refine XS.icmpYes X392.here hx rfl (pc0 := 217) (pc' := 236) rfl (hb hby at_217) rfl (feq hc217_428).2 (by decide) (by decide) ?_
          refine XS.iloadN X392.here hx rfl (hb hby at_236) rfl ?_
          refine XS.iload X392.here hx rfl (hb hby at_237) rfl ?_
          exact k
        obtain ⟨v466, pre467, hv466⟩ : ∃ (v466 : Int32), (∀ t, Steps p.tables e below (T392.setTop (mkF m 278 #[.val (.int p0), .val (.int p1), .val (.int p2), .val (.int v248), .val (.int v251), .val (.int v254), .val (.int v260), .val (.int v266), .val (.int v274), .val (.int v278), .val (.int v284), .val (.int v287), .val (.ref b290), .val (.ref b302), .val (.ref b318), .val (.ref b364), .unset] [(.int v466)])) t → Steps p.tables e below (s₁.setTop (entryFrame m #[(.int p0), (.int p1), (.int p2)] maxLocals)) t) ∧ v466 = (if v248 = v274 then (if v248 < (1 : Int32) then (if v248 < (2 : Int32) then (if v278 = v284 then (1 : Int32) else (0 : Int32)) else (if v254 = v266 then (if v278 = v284 then (1 : Int32) else (0 : Int32)) else (0 : Int32))) else (if v251 = v260 then (if v248 < (2 : Int32) then (if v278 = v284 then (1 : Int32) else (0 : Int32)) else (if v254 = v266 then (if v278 = v284 then (1 : Int32) else (0 : Int32)) else (0 : Int32))) else (0 : Int32))) else (0 : Int32)) := by
          by_cases hc239_433 : v248 = v274
          · have pre434 : ∀ t, Steps p.tables e below (T392.setTop (mkF m 244 #[.val (.int p0), .val (.int p1), .val (.int p2), .val (.int v248), .val (.int v251), .val (.int v254), .val (.int v260), .val (.int v266), .val (.int v274), .val (.int v278), .val (.int v284), .val (.int v287), .val (.ref b290), .val (.ref b302), .val (.ref b318), .val (.ref b364), .unset] [(.int (1 : Int32)), (.int v248)])) t → Steps p.tables e below (s₁.setTop (entryFrame m #[(.int p0), (.int p1), (.int p2)] maxLocals)) t := by
              intro t k
              refine pre432 t ?_
              show Steps p.tables e below (T392.setTop (mkF m 239 #[.val (.int p0), .val (.int p1), .val (.int p2), .val (.int v248), .val (.int v251), .val (.int v254), .val (.int v260), .val (.int v266), .val (.int v274), .val (.int v278), .val (.int v284), .val (.int v287), .val (.ref b290), .val (.ref b302), .val (.ref b318), .val (.ref b364), .unset] [(.int v274), (.int v248)])) _
              refine XS.icmpNo X392.here hx rfl (hb hby at_239) rfl (teq hc239_433).2 ?_
              refine XS.iloadN X392.here hx rfl (hb hby at_242) rfl ?_
              refine XS.iconst X392.here hx rfl (hb hby at_243) ?_
              exact k
            by_cases hc244_435 : v248 < (1 : Int32)
            · have pre436 : ∀ t, Steps p.tables e below (T392.setTop (mkF m 256 #[.val (.int p0), .val (.int p1), .val (.int p2), .val (.int v248), .val (.int v251), .val (.int v254), .val (.int v260), .val (.int v266), .val (.int v274), .val (.int v278), .val (.int v284), .val (.int v287), .val (.ref b290), .val (.ref b302), .val (.ref b318), .val (.ref b364), .unset] [(.int (2 : Int32)), (.int v248)])) t → Steps p.tables e below (s₁.setTop (entryFrame m #[(.int p0), (.int p1), (.int p2)] maxLocals)) t := by
                intro t k
                refine pre434 t ?_
                show Steps p.tables e below (T392.setTop (mkF m 244 #[.val (.int p0), .val (.int p1), .val (.int p2), .val (.int v248), .val (.int v251), .val (.int v254), .val (.int v260), .val (.int v266), .val (.int v274), .val (.int v278), .val (.int v284), .val (.int v287), .val (.ref b290), .val (.ref b302), .val (.ref b318), .val (.ref b364), .unset] [(.int (1 : Int32)), (.int v248)])) _
                refine XS.icmpYes X392.here hx rfl (pc0 := 244) (pc' := 254) rfl (hb hby at_244) rfl (tlt hc244_435).1 (by decide) (by decide) ?_
                refine XS.iloadN X392.here hx rfl (hb hby at_254) rfl ?_
                refine XS.iconst X392.here hx rfl (hb hby at_255) ?_
                exact k
              by_cases hc256_437 : v248 < (2 : Int32)
              · have pre438 : ∀ t, Steps p.tables e below (T392.setTop (mkF m 270 #[.val (.int p0), .val (.int p1), .val (.int p2), .val (.int v248), .val (.int v251), .val (.int v254), .val (.int v260), .val (.int v266), .val (.int v274), .val (.int v278), .val (.int v284), .val (.int v287), .val (.ref b290), .val (.ref b302), .val (.ref b318), .val (.ref b364), .unset] [(.int v284), (.int v278)])) t → Steps p.tables e below (s₁.setTop (entryFrame m #[(.int p0), (.int p1), (.int p2)] maxLocals)) t := by
                  intro t k
                  refine pre436 t ?_
                  show Steps p.tables e below (T392.setTop (mkF m 256 #[.val (.int p0), .val (.int p1), .val (.int p2), .val (.int v248), .val (.int v251), .val (.int v254), .val (.int v260), .val (.int v266), .val (.int v274), .val (.int v278), .val (.int v284), .val (.int v287), .val (.ref b290), .val (.ref b302), .val (.ref b318), .val (.ref b364), .unset] [(.int (2 : Int32)), (.int v248)])) _
                  refine XS.icmpYes X392.here hx rfl (pc0 := 256) (pc' := 266) rfl (hb hby at_256) rfl (tlt hc256_437).1 (by decide) (by decide) ?_
                  refine XS.iload X392.here hx rfl (hb hby at_266) rfl ?_
                  refine XS.iload X392.here hx rfl (hb hby at_268) rfl ?_
                  exact k
                by_cases hc270_439 : v278 = v284
                · have pre440 : ∀ t, Steps p.tables e below (T392.setTop (mkF m 278 #[.val (.int p0), .val (.int p1), .val (.int p2), .val (.int v248), .val (.int v251), .val (.int v254), .val (.int v260), .val (.int v266), .val (.int v274), .val (.int v278), .val (.int v284), .val (.int v287), .val (.ref b290), .val (.ref b302), .val (.ref b318), .val (.ref b364), .unset] [(.int (1 : Int32))])) t → Steps p.tables e below (s₁.setTop (entryFrame m #[(.int p0), (.int p1), (.int p2)] maxLocals)) t := by
                    intro t k
                    refine pre438 t ?_
                    show Steps p.tables e below (T392.setTop (mkF m 270 #[.val (.int p0), .val (.int p1), .val (.int p2), .val (.int v248), .val (.int v251), .val (.int v254), .val (.int v260), .val (.int v266), .val (.int v274), .val (.int v278), .val (.int v284), .val (.int v287), .val (.ref b290), .val (.ref b302), .val (.ref b318), .val (.ref b364), .unset] [(.int v284), (.int v278)])) _
                    refine XS.icmpNo X392.here hx rfl (hb hby at_270) rfl (teq hc270_439).2 ?_
                    refine XS.iconst X392.here hx rfl (hb hby at_273) ?_
                    refine XS.goto X392.here hx rfl (pc0 := 274) (pc' := 278) rfl (hb hby at_274) (by decide) (by decide) ?_
                    exact k
                  exact ⟨(1 : Int32), pre440, by rw [if_pos hc239_433, if_pos hc244_435, if_pos hc256_437, if_pos hc270_439]⟩
                · have pre441 : ∀ t, Steps p.tables e below (T392.setTop (mkF m 278 #[.val (.int p0), .val (.int p1), .val (.int p2), .val (.int v248), .val (.int v251), .val (.int v254), .val (.int v260), .val (.int v266), .val (.int v274), .val (.int v278), .val (.int v284), .val (.int v287), .val (.ref b290), .val (.ref b302), .val (.ref b318), .val (.ref b364), .unset] [(.int (0 : Int32))])) t → Steps p.tables e below (s₁.setTop (entryFrame m #[(.int p0), (.int p1), (.int p2)] maxLocals)) t := by
                    intro t k
                    refine pre438 t ?_
                    show Steps p.tables e below (T392.setTop (mkF m 270 #[.val (.int p0), .val (.int p1), .val (.int p2), .val (.int v248), .val (.int v251), .val (.int v254), .val (.int v260), .val (.int v266), .val (.int v274), .val (.int v278), .val (.int v284), .val (.int v287), .val (.ref b290), .val (.ref b302), .val (.ref b318), .val (.ref b364), .unset] [(.int v284), (.int v278)])) _
                    refine XS.icmpYes X392.here hx rfl (pc0 := 270) (pc' := 277) rfl (hb hby at_270) rfl (feq hc270_439).2 (by decide) (by decide) ?_
                    refine XS.iconst X392.here hx rfl (hb hby at_277) ?_
                    exact k
                  exact ⟨(0 : Int32), pre441, by rw [if_pos hc239_433, if_pos hc244_435, if_pos hc256_437, if_neg hc270_439]⟩
              · have pre442 : ∀ t, Steps p.tables e below (T392.setTop (mkF m 263 #[.val (.int p0), .val (.int p1), .val (.int p2), .val (.int v248), .val (.int v251), .val (.int v254), .val (.int v260), .val (.int v266), .val (.int v274), .val (.int v278), .val (.int v284), .val (.int v287), .val (.ref b290), .val (.ref b302), .val (.ref b318), .val (.ref b364), .unset] [(.int v266), (.int v254)])) t → Steps p.tables e below (s₁.setTop (entryFrame m #[(.int p0), (.int p1), (.int p2)] maxLocals)) t := by
                  intro t k
                  refine pre436 t ?_
                  show Steps p.tables e below (T392.setTop (mkF m 256 #[.val (.int p0), .val (.int p1), .val (.int p2), .val (.int v248), .val (.int v251), .val (.int v254), .val (.int v260), .val (.int v266), .val (.int v274), .val (.int v278), .val (.int v284), .val (.int v287), .val (.ref b290), .val (.ref b302), .val (.ref b318), .val (.ref b364), .unset] [(.int (2 : Int32)), (.int v248)])) _
                  refine XS.icmpNo X392.here hx rfl (hb hby at_256) rfl (flt hc256_437).1 ?_
                  refine XS.iload X392.here hx rfl (hb hby at_259) rfl ?_
                  refine XS.iload X392.here hx rfl (hb hby at_261) rfl ?_
                  exact k
                by_cases hc263_443 : v254 = v266
                · have pre444 : ∀ t, Steps p.tables e below (T392.setTop (mkF m 270 #[.val (.int p0), .val (.int p1), .val (.int p2), .val (.int v248), .val (.int v251), .val (.int v254), .val (.int v260), .val (.int v266), .val (.int v274), .val (.int v278), .val (.int v284), .val (.int v287), .val (.ref b290), .val (.ref b302), .val (.ref b318), .val (.ref b364), .unset] [(.int v284), (.int v278)])) t → Steps p.tables e below (s₁.setTop (entryFrame m #[(.int p0), (.int p1), (.int p2)] maxLocals)) t := by
                    intro t k
                    refine pre442 t ?_
                    show Steps p.tables e below (T392.setTop (mkF m 263 #[.val (.int p0), .val (.int p1), .val (.int p2), .val (.int v248), .val (.int v251), .val (.int v254), .val (.int v260), .val (.int v266), .val (.int v274), .val (.int v278), .val (.int v284), .val (.int v287), .val (.ref b290), .val (.ref b302), .val (.ref b318), .val (.ref b364), .unset] [(.int v266), (.int v254)])) _
                    refine XS.icmpNo X392.here hx rfl (hb hby at_263) rfl (teq hc263_443).2 ?_
                    refine XS.iload X392.here hx rfl (hb hby at_266) rfl ?_
                    refine XS.iload X392.here hx rfl (hb hby at_268) rfl ?_
                    exact k
                  by_cases hc270_445 : v278 = v284
                  · have pre446 : ∀ t, Steps p.tables e below (T392.setTop (mkF m 278 #[.val (.int p0), .val (.int p1), .val (.int p2), .val (.int v248), .val (.int v251), .val (.int v254), .val (.int v260), .val (.int v266), .val (.int v274), .val (.int v278), .val (.int v284), .val (.int v287), .val (.ref b290), .val (.ref b302), .val (.ref b318), .val (.ref b364), .unset] [(.int (1 : Int32))])) t → Steps p.tables e below (s₁.setTop (entryFrame m #[(.int p0), (.int p1), (.int p2)] maxLocals)) t := by
                      intro t k
                      refine pre444 t ?_
                      show Steps p.tables e below (T392.setTop (mkF m 270 #[.val (.int p0), .val (.int p1), .val (.int p2), .val (.int v248), .val (.int v251), .val (.int v254), .val (.int v260), .val (.int v266), .val (.int v274), .val (.int v278), .val (.int v284), .val (.int v287), .val (.ref b290), .val (.ref b302), .val (.ref b318), .val (.ref b364), .unset] [(.int v284), (.int v278)])) _
                      refine XS.icmpNo X392.here hx rfl (hb hby at_270) rfl (teq hc270_445).2 ?_
                      refine XS.iconst X392.here hx rfl (hb hby at_273) ?_
                      refine XS.goto X392.here hx rfl (pc0 := 274) (pc' := 278) rfl (hb hby at_274) (by decide) (by decide) ?_
                      exact k
                    exact ⟨(1 : Int32), pre446, by rw [if_pos hc239_433, if_pos hc244_435, if_neg hc256_437, if_pos hc263_443, if_pos hc270_445]⟩
                  · have pre447 : ∀ t, Steps p.tables e below (T392.setTop (mkF m 278 #[.val (.int p0), .val (.int p1), .val (.int p2), .val (.int v248), .val (.int v251), .val (.int v254), .val (.int v260), .val (.int v266), .val (.int v274), .val (.int v278), .val (.int v284), .val (.int v287), .val (.ref b290), .val (.ref b302), .val (.ref b318), .val (.ref b364), .unset] [(.int (0 : Int32))])) t → Steps p.tables e below (s₁.setTop (entryFrame m #[(.int p0), (.int p1), (.int p2)] maxLocals)) t := by
                      intro t k
                      refine pre444 t ?_
                      show Steps p.tables e below (T392.setTop (mkF m 270 #[.val (.int p0), .val (.int p1), .val (.int p2), .val (.int v248), .val (.int v251), .val (.int v254), .val (.int v260), .val (.int v266), .val (.int v274), .val (.int v278), .val (.int v284), .val (.int v287), .val (.ref b290), .val (.ref b302), .val (.ref b318), .val (.ref b364), .unset] [(.int v284), (.int v278)])) _
                      refine XS.icmpYes X392.here hx rfl (pc0 := 270) (pc' := 277) rfl (hb hby at_270) rfl (feq hc270_445).2 (by decide) (by decide) ?_
                      refine XS.iconst X392.here hx rfl (hb hby at_277) ?_
                      exact k
                    exact ⟨(0 : Int32), pre447, by rw [if_pos hc239_433, if_pos hc244_435, if_neg hc256_437, if_pos hc263_443, if_neg hc270_445]⟩
                · have pre448 : ∀ t, Steps p.tables e below (T392.setTop (mkF m 278 #[.val (.int p0), .val (.int p1), .val (.int p2), .val (.int v248), .val (.int v251), .val (.int v254), .val (.int v260), .val (.int v266), .val (.int v274), .val (.int v278), .val (.int v284), .val (.int v287), .val (.ref b290), .val (.ref b302), .val (.ref b318), .val (.ref b364), .unset] [(.int (0 : Int32))])) t → Steps p.tables e below (s₁.setTop (entryFrame m #[(.int p0), (.int p1), (.int p2)] maxLocals)) t := by
                    intro t k
                    refine pre442 t ?_
                    show Steps p.tables e below (T392.setTop (mkF m 263 #[.val (.int p0), .val (.int p1), .val (.int p2), .val (.int v248), .val (.int v251), .val (.int v254), .val (.int v260), .val (.int v266), .val (.int v274), .val (.int v278), .val (.int v284), .val (.int v287), .val (.ref b290), .val (.ref b302), .val (.ref b318), .val (.ref b364), .unset] [(.int v266), (.int v254)])) _
                    refine XS.icmpYes X392.here hx rfl (pc0 := 263) (pc' := 277) rfl (hb hby at_263) rfl (feq hc263_443).2 (by decide) (by decide) ?_
                    refine XS.iconst X392.here hx rfl (hb hby at_277) ?_
                    exact k
                  exact ⟨(0 : Int32), pre448, by rw [if_pos hc239_433, if_pos hc244_435, if_neg hc256_437, if_neg hc263_443]⟩
            · have pre449 : ∀ t, Steps p.tables e below (T392.setTop (mkF m 251 #[.val (.int p0), .val (.int p1), .val (.int p2), .val (.int v248), .val (.int v251), .val (.int v254), .val (.int v260), .val (.int v266), .val (.int v274), .val (.int v278), .val (.int v284), .val (.int v287), .val (.ref b290), .val (.ref b302), .val (.ref b318), .val (.ref b364), .unset] [(.int v260), (.int v251)])) t → Steps p.tables e below (s₁.setTop (entryFrame m #[(.int p0), (.int p1), (.int p2)] maxLocals)) t := by
                intro t k
                refine pre434 t ?_
                show Steps p.tables e below (T392.setTop (mkF m 244 #[.val (.int p0), .val (.int p1), .val (.int p2), .val (.int v248), .val (.int v251), .val (.int v254), .val (.int v260), .val (.int v266), .val (.int v274), .val (.int v278), .val (.int v284), .val (.int v287), .val (.ref b290), .val (.ref b302), .val (.ref b318), .val (.ref b364), .unset] [(.int (1 : Int32)), (.int v248)])) _
                refine XS.icmpNo X392.here hx rfl (hb hby at_244) rfl (flt hc244_435).1 ?_
                refine XS.iload X392.here hx rfl (hb hby at_247) rfl ?_
                refine XS.iload X392.here hx rfl (hb hby at_249) rfl ?_
                exact k
              by_cases hc251_450 : v251 = v260
              · have pre451 : ∀ t, Steps p.tables e below (T392.setTop (mkF m 256 #[.val (.int p0), .val (.int p1), .val (.int p2), .val (.int v248), .val (.int v251), .val (.int v254), .val (.int v260), .val (.int v266), .val (.int v274), .val (.int v278), .val (.int v284), .val (.int v287), .val (.ref b290), .val (.ref b302), .val (.ref b318), .val (.ref b364), .unset] [(.int (2 : Int32)), (.int v248)])) t → Steps p.tables e below (s₁.setTop (entryFrame m #[(.int p0), (.int p1), (.int p2)] maxLocals)) t := by
                  intro t k
                  refine pre449 t ?_
                  show Steps p.tables e below (T392.setTop (mkF m 251 #[.val (.int p0), .val (.int p1), .val (.int p2), .val (.int v248), .val (.int v251), .val (.int v254), .val (.int v260), .val (.int v266), .val (.int v274), .val (.int v278), .val (.int v284), .val (.int v287), .val (.ref b290), .val (.ref b302), .val (.ref b318), .val (.ref b364), .unset] [(.int v260), (.int v251)])) _
                  refine XS.icmpNo X392.here hx rfl (hb hby at_251) rfl (teq hc251_450).2 ?_
                  refine XS.iloadN X392.here hx rfl (hb hby at_254) rfl ?_
                  refine XS.iconst X392.here hx rfl (hb hby at_255) ?_
                  exact k
                by_cases hc256_452 : v248 < (2 : Int32)
                · have pre453 : ∀ t, Steps p.tables e below (T392.setTop (mkF m 270 #[.val (.int p0), .val (.int p1), .val (.int p2), .val (.int v248), .val (.int v251), .val (.int v254), .val (.int v260), .val (.int v266), .val (.int v274), .val (.int v278), .val (.int v284), .val (.int v287), .val (.ref b290), .val (.ref b302), .val (.ref b318), .val (.ref b364), .unset] [(.int v284), (.int v278)])) t → Steps p.tables e below (s₁.setTop (entryFrame m #[(.int p0), (.int p1), (.int p2)] maxLocals)) t := by
                    intro t k
                    refine pre451 t ?_
                    show Steps p.tables e below (T392.setTop (mkF m 256 #[.val (.int p0), .val (.int p1), .val (.int p2), .val (.int v248), .val (.int v251), .val (.int v254), .val (.int v260), .val (.int v266), .val (.int v274), .val (.int v278), .val (.int v284), .val (.int v287), .val (.ref b290), .val (.ref b302), .val (.ref b318), .val (.ref b364), .unset] [(.int (2 : Int32)), (.int v248)])) _
                    refine XS.icmpYes X392.here hx rfl (pc0 := 256) (pc' := 266) rfl (hb hby at_256) rfl (tlt hc256_452).1 (by decide) (by decide) ?_
                    refine XS.iload X392.here hx rfl (hb hby at_266) rfl ?_
                    refine XS.iload X392.here hx rfl (hb hby at_268) rfl ?_
                    exact k
                  by_cases hc270_454 : v278 = v284
                  · have pre455 : ∀ t, Steps p.tables e below (T392.setTop (mkF m 278 #[.val (.int p0), .val (.int p1), .val (.int p2), .val (.int v248), .val (.int v251), .val (.int v254), .val (.int v260), .val (.int v266), .val (.int v274), .val (.int v278), .val (.int v284), .val (.int v287), .val (.ref b290), .val (.ref b302), .val (.ref b318), .val (.ref b364), .unset] [(.int (1 : Int32))])) t → Steps p.tables e below (s₁.setTop (entryFrame m #[(.int p0), (.int p1), (.int p2)] maxLocals)) t := by
                      intro t k
                      refine pre453 t ?_
                      show Steps p.tables e below (T392.setTop (mkF m 270 #[.val (.int p0), .val (.int p1), .val (.int p2), .val (.int v248), .val (.int v251), .val (.int v254), .val (.int v260), .val (.int v266), .val (.int v274), .val (.int v278), .val (.int v284), .val (.int v287), .val (.ref b290), .val (.ref b302), .val (.ref b318), .val (.ref b364), .unset] [(.int v284), (.int v278)])) _
                      refine XS.icmpNo X392.here hx rfl (hb hby at_270) rfl (teq hc270_454).2 ?_
                      refine XS.iconst X392.here hx rfl (hb hby at_273) ?_
                      refine XS.goto X392.here hx rfl (pc0 := 274) (pc' := 278) rfl (hb hby at_274) (by decide) (by decide) ?_
                      exact k
                    exact ⟨(1 : Int32), pre455, by rw [if_pos hc239_433, if_neg hc244_435, if_pos hc251_450, if_pos hc256_452, if_pos hc270_454]⟩
                  · have pre456 : ∀ t, Steps p.tables e below (T392.setTop (mkF m 278 #[.val (.int p0), .val (.int p1), .val (.int p2), .val (.int v248), .val (.int v251), .val (.int v254), .val (.int v260), .val (.int v266), .val (.int v274), .val (.int v278), .val (.int v284), .val (.int v287), .val (.ref b290), .val (.ref b302), .val (.ref b318), .val (.ref b364), .unset] [(.int (0 : Int32))])) t → Steps p.tables e below (s₁.setTop (entryFrame m #[(.int p0), (.int p1), (.int p2)] maxLocals)) t := by
                      intro t k
                      refine pre453 t ?_
                      show Steps p.tables e below (T392.setTop (mkF m 270 #[.val (.int p0), .val (.int p1), .val (.int p2), .val (.int v248), .val (.int v251), .val (.int v254), .val (.int v260), .val (.int v266), .val (.int v274), .val (.int v278), .val (.int v284), .val (.int v287), .val (.ref b290), .val (.ref b302), .val (.ref b318), .val (.ref b364), .unset] [(.int v284), (.int v278)])) _
                      refine XS.icmpYes X392.here hx rfl (pc0 := 270) (pc' := 277) rfl (hb hby at_270) rfl (feq hc270_454).2 (by decide) (by decide) ?_
                      refine XS.iconst X392.here hx rfl (hb hby at_277) ?_
                      exact k
                    exact ⟨(0 : Int32), pre456, by rw [if_pos hc239_433, if_neg hc244_435, if_pos hc251_450, if_pos hc256_452, if_neg hc270_454]⟩
                · have pre457 : ∀ t, Steps p.tables e below (T392.setTop (mkF m 263 #[.val (.int p0), .val (.int p1), .val (.int p2), .val (.int v248), .val (.int v251), .val (.int v254), .val (.int v260), .val (.int v266), .val (.int v274), .val (.int v278), .val (.int v284), .val (.int v287), .val (.ref b290), .val (.ref b302), .val (.ref b318), .val (.ref b364), .unset] [(.int v266), (.int v254)])) t → Steps p.tables e below (s₁.setTop (entryFrame m #[(.int p0), (.int p1), (.int p2)] maxLocals)) t := by
                    intro t k
                    refine pre451 t ?_
                    show Steps p.tables e below (T392.setTop (mkF m 256 #[.val (.int p0), .val (.int p1), .val (.int p2), .val (.int v248), .val (.int v251), .val (.int v254), .val (.int v260), .val (.int v266), .val (.int v274), .val (.int v278), .val (.int v284), .val (.int v287), .val (.ref b290), .val (.ref b302), .val (.ref b318), .val (.ref b364), .unset] [(.int (2 : Int32)), (.int v248)])) _
                    refine XS.icmpNo X392.here hx rfl (hb hby at_256) rfl (flt hc256_452).1 ?_
                    refine XS.iload X392.here hx rfl (hb hby at_259) rfl ?_
                    refine XS.iload X392.here hx rfl (hb hby at_261) rfl ?_
                    exact k
                  by_cases hc263_458 : v254 = v266
                  · have pre459 : ∀ t, Steps p.tables e below (T392.setTop (mkF m 270 #[.val (.int p0), .val (.int p1), .val (.int p2), .val (.int v248), .val (.int v251), .val (.int v254), .val (.int v260), .val (.int v266), .val (.int v274), .val (.int v278), .val (.int v284), .val (.int v287), .val (.ref b290), .val (.ref b302), .val (.ref b318), .val (.ref b364), .unset] [(.int v284), (.int v278)])) t → Steps p.tables e below (s₁.setTop (entryFrame m #[(.int p0), (.int p1), (.int p2)] maxLocals)) t := by
                      intro t k
                      refine pre457 t ?_
                      show Steps p.tables e below (T392.setTop (mkF m 263 #[.val (.int p0), .val (.int p1), .val (.int p2), .val (.int v248), .val (.int v251), .val (.int v254), .val (.int v260), .val (.int v266), .val (.int v274), .val (.int v278), .val (.int v284), .val (.int v287), .val (.ref b290), .val (.ref b302), .val (.ref b318), .val (.ref b364), .unset] [(.int v266), (.int v254)])) _
                      refine XS.icmpNo X392.here hx rfl (hb hby at_263) rfl (teq hc263_458).2 ?_
                      refine XS.iload X392.here hx rfl (hb hby at_266) rfl ?_
                      refine XS.iload X392.here hx rfl (hb hby at_268) rfl ?_
                      exact k
                    by_cases hc270_460 : v278 = v284
                    · have pre461 : ∀ t, Steps p.tables e below (T392.setTop (mkF m 278 #[.val (.int p0), .val (.int p1), .val (.int p2), .val (.int v248), .val (.int v251), .val (.int v254), .val (.int v260), .val (.int v266), .val (.int v274), .val (.int v278), .val (.int v284), .val (.int v287), .val (.ref b290), .val (.ref b302), .val (.ref b318), .val (.ref b364), .unset] [(.int (1 : Int32))])) t → Steps p.tables e below (s₁.setTop (entryFrame m #[(.int p0), (.int p1), (.int p2)] maxLocals)) t := by
                        intro t k
                        refine pre459 t ?_
                        show Steps p.tables e below (T392.setTop (mkF m 270 #[.val (.int p0), .val (.int p1), .val (.int p2), .val (.int v248), .val (.int v251), .val (.int v254), .val (.int v260), .val (.int v266), .val (.int v274), .val (.int v278), .val (.int v284), .val (.int v287), .val (.ref b290), .val (.ref b302), .val (.ref b318), .val (.ref b364), .unset] [(.int v284), (.int v278)])) _
                        refine XS.icmpNo X392.here hx rfl (hb hby at_270) rfl (teq hc270_460).2 ?_
                        refine XS.iconst X392.here hx rfl (hb hby at_273) ?_
                        refine XS.goto X392.here hx rfl (pc0 := 274) (pc' := 278) rfl (hb hby at_274) (by decide) (by decide) ?_
                        exact k
                      exact ⟨(1 : Int32), pre461, by rw [if_pos hc239_433, if_neg hc244_435, if_pos hc251_450, if_neg hc256_452, if_pos hc263_458, if_pos hc270_460]⟩
                    · have pre462 : ∀ t, Steps p.tables e below (T392.setTop (mkF m 278 #[.val (.int p0), .val (.int p1), .val (.int p2), .val (.int v248), .val (.int v251), .val (.int v254), .val (.int v260), .val (.int v266), .val (.int v274), .val (.int v278), .val (.int v284), .val (.int v287), .val (.ref b290), .val (.ref b302), .val (.ref b318), .val (.ref b364), .unset] [(.int (0 : Int32))])) t → Steps p.tables e below (s₁.setTop (entryFrame m #[(.int p0), (.int p1), (.int p2)] maxLocals)) t := by
                        intro t k
                        refine pre459 t ?_
                        show Steps p.tables e below (T392.setTop (mkF m 270 #[.val (.int p0), .val (.int p1), .val (.int p2), .val (.int v248), .val (.int v251), .val (.int v254), .val (.int v260), .val (.int v266), .val (.int v274), .val (.int v278), .val (.int v284), .val (.int v287), .val (.ref b290), .val (.ref b302), .val (.ref b318), .val (.ref b364), .unset] [(.int v284), (.int v278)])) _
                        refine XS.icmpYes X392.here hx rfl (pc0 := 270) (pc' := 277) rfl (hb hby at_270) rfl (feq hc270_460).2 (by decide) (by decide) ?_
                        refine XS.iconst X392.here hx rfl (hb hby at_277) ?_
                        exact k
                      exact ⟨(0 : Int32), pre462, by rw [if_pos hc239_433, if_neg hc244_435, if_pos hc251_450, if_neg hc256_452, if_pos hc263_458, if_neg hc270_460]⟩
                  · have pre463 : ∀ t, Steps p.tables e below (T392.setTop (mkF m 278 #[.val (.int p0), .val (.int p1), .val (.int p2), .val (.int v248), .val (.int v251), .val (.int v254), .val (.int v260), .val (.int v266), .val (.int v274), .val (.int v278), .val (.int v284), .val (.int v287), .val (.ref b290), .val (.ref b302), .val (.ref b318), .val (.ref b364), .unset] [(.int (0 : Int32))])) t → Steps p.tables e below (s₁.setTop (entryFrame m #[(.int p0), (.int p1), (.int p2)] maxLocals)) t := by
                      intro t k
                      refine pre457 t ?_
                      show Steps p.tables e below (T392.setTop (mkF m 263 #[.val (.int p0), .val (.int p1), .val (.int p2), .val (.int v248), .val (.int v251), .val (.int v254), .val (.int v260), .val (.int v266), .val (.int v274), .val (.int v278), .val (.int v284), .val (.int v287), .val (.ref b290), .val (.ref b302), .val (.ref b318), .val (.ref b364), .unset] [(.int v266), (.int v254)])) _
                      refine XS.icmpYes X392.here hx rfl (pc0 := 263) (pc' := 277) rfl (hb hby at_263) rfl (feq hc263_458).2 (by decide) (by decide) ?_
                      refine XS.iconst X392.here hx rfl (hb hby at_277) ?_
                      exact k
                    exact ⟨(0 : Int32), pre463, by rw [if_pos hc239_433, if_neg hc244_435, if_pos hc251_450, if_neg hc256_452, if_neg hc263_458]⟩
              · have pre464 : ∀ t, Steps p.tables e below (T392.setTop (mkF m 278 #[.val (.int p0), .val (.int p1), .val (.int p2), .val (.int v248), .val (.int v251), .val (.int v254), .val (.int v260), .val (.int v266), .val (.int v274), .val (.int v278), .val (.int v284), .val (.int v287), .val (.ref b290), .val (.ref b302), .val (.ref b318), .val (.ref b364), .unset] [(.int (0 : Int32))])) t → Steps p.tables e below (s₁.setTop (entryFrame m #[(.int p0), (.int p1), (.int p2)] maxLocals)) t := by
                  intro t k
                  refine pre449 t ?_
                  show Steps p.tables e below (T392.setTop (mkF m 251 #[.val (.int p0), .val (.int p1), .val (.int p2), .val (.int v248), .val (.int v251), .val (.int v254), .val (.int v260), .val (.int v266), .val (.int v274), .val (.int v278), .val (.int v284), .val (.int v287), .val (.ref b290), .val (.ref b302), .val (.ref b318), .val (.ref b364), .unset] [(.int v260), (.int v251)])) _
                  refine XS.icmpYes X392.here hx rfl (pc0 := 251) (pc' := 277) rfl (hb hby at_251) rfl (feq hc251_450).2 (by decide) (by decide) ?_
                  refine XS.iconst X392.here hx rfl (hb hby at_277) ?_
                  exact k
                exact ⟨(0 : Int32), pre464, by rw [if_pos hc239_433, if_neg hc244_435, if_neg hc251_450]⟩
          · have pre465 : ∀ t, Steps p.tables e below (T392.setTop (mkF m 278 #[.val (.int p0), .val (.int p1), .val (.int p2), .val (.int v248), .val (.int v251), .val (.int v254), .val (.int v260), .val (.int v266), .val (.int v274), .val (.int v278), .val (.int v284), .val (.int v287), .val (.ref b290), .val (.ref b302), .val (.ref b318), .val (.ref b364), .unset] [(.int (0 : Int32))])) t → Steps p.tables e below (s₁.setTop (entryFrame m #[(.int p0), (.int p1), (.int p2)] maxLocals)) t := by
              intro t k
              refine pre432 t ?_
              show Steps p.tables e below (T392.setTop (mkF m 239 #[.val (.int p0), .val (.int p1), .val (.int p2), .val (.int v248), .val (.int v251), .val (.int v254), .val (.int v260), .val (.int v266), .val (.int v274), .val (.int v278), .val (.int v284), .val (.int v287), .val (.ref b290), .val (.ref b302), .val (.ref b318), .val (.ref b364), .unset] [(.int v274), (.int v248)])) _
              refine XS.icmpYes X392.here hx rfl (pc0 := 239) (pc' := 277) rfl (hb hby at_239) rfl (feq hc239_433).2 (by decide) (by decide) ?_
              refine XS.iconst X392.here hx rfl (hb hby at_277) ?_
              exact k
            exact ⟨(0 : Int32), pre465, by rw [if_neg hc239_433]⟩
        have pre468 : ∀ t, Steps p.tables e below (T392.setTop (mkF m 284 #[.val (.int p0), .val (.int p1), .val (.int p2), .val (.int v248), .val (.int v251), .val (.int v254), .val (.int v260), .val (.int v266), .val (.int v274), .val (.int v278), .val (.int v284), .val (.int v287), .val (.ref b290), .val (.ref b302), .val (.ref b318), .val (.ref b364), .val (.int v466)] [(.ref b364), (.ref b318)])) t → Steps p.tables e below (s₁.setTop (entryFrame m #[(.int p0), (.int p1), (.int p2)] maxLocals)) t := by
          intro t k
          refine pre467 t ?_
          show Steps p.tables e below (T392.setTop (mkF m 278 #[.val (.int p0), .val (.int p1), .val (.int p2), .val (.int v248), .val (.int v251), .val (.int v254), .val (.int v260), .val (.int v266), .val (.int v274), .val (.int v278), .val (.int v284), .val (.int v287), .val (.ref b290), .val (.ref b302), .val (.ref b318), .val (.ref b364), .unset] [(.int v466)])) _
          refine XS.istore X392.here hx rfl (hb hby at_278) rfl (l' := #[.val (.int p0), .val (.int p1), .val (.int p2), .val (.int v248), .val (.int v251), .val (.int v254), .val (.int v260), .val (.int v266), .val (.int v274), .val (.int v278), .val (.int v284), .val (.int v287), .val (.ref b290), .val (.ref b302), .val (.ref b318), .val (.ref b364), .val (.int v466)]) rfl ?_
          refine XS.aload X392.here hx rfl (hb hby at_280) rfl rfl ?_
          refine XS.aload X392.here hx rfl (hb hby at_282) rfl rfl ?_
          exact k
        obtain ⟨cq469, kq469, q469a, q469b, q469c⟩ := isOf hZ392 e392 Ef410
        obtain ⟨_, _, ⟨T469, L469, k469, n469⟩, -, X469, ⟨Lc469, hQ469, l469, y469, z469⟩, st469⟩ := X392.virtualBack hx (y := (⟨"com/example/oversee/oversee/model/Variable", "equals", "(Ljava/lang/Object;)Z"⟩ : MethodName)) (z := (⟨"com/example/oversee/oversee/model/Variable", "equals", "(Ljava/lang/Object;)Z"⟩ : MethodName)) ho392 (mvT hZ392 (hw _ (List.mem_of_getElem? (i := 56) rfl))) (mvT hZ392 (hw _ (List.mem_of_getElem? (i := 57) rfl))) (notFace_of_selects (args := #[]) (mvT hZ392 (hw _ (List.mem_of_getElem? (i := 59) rfl)))) (mvT hZ392 (hw _ (List.mem_of_getElem? (i := 59) rfl))) (mvT hZ392 (hw _ (List.mem_of_getElem? (i := 58) rfl))) (by decide) (backOf (W := 0) (rm9_y l Z ar0 hw [] b318 b364 (own_cs v248 v251 v254) (own_cs v274 v260 v266) gc1 o340 b290 b290b kb290b o390 b302 b302b kb302b h392 n0 Z392 P5 (own_hpcs (own_rg1 hv251) (own_rg1 hv254)) own_hlcs (own_hpcs (own_rg2 hv260 (own_rg1 hv251)) (own_rg2 hv266 (own_rg1 hv254))) own_hlcs Sf393 Ef410 Ff413 Ff412 Ef402 Ff403 Ff404 Vf405 Q392_0 Q392_2 Q392_1 Ef406 Ff407 Ff408 Vf409 ne_b318_b364) hZ392 (hw _ (List.mem_of_getElem? (i := 60) rfl)) (hw _ (List.mem_of_getElem? (i := 32) rfl)) (by decide) (by decide)) q469a q469c (g := (mkF m 284 #[.val (.int p0), .val (.int p1), .val (.int p2), .val (.int v248), .val (.int v251), .val (.int v254), .val (.int v260), .val (.int v266), .val (.int v274), .val (.int v278), .val (.int v284), .val (.int v287), .val (.ref b290), .val (.ref b302), .val (.ref b318), .val (.ref b364), .val (.int v466)] [(.ref b364), (.ref b318)])) rfl (by rw [hml]; rfl) (Steps.refl _) (argsL := [(.ref b364)]) (rest := []) (lenOf pd_7 rfl) rfl (by show 2 * 0 + _ ≤ _; exact Nat.le_of_eq rfl) (hb hby at_284) (fun _ _ => ⟨rfl, e392, (by decide : 22 + 0 ≤ _), (by decide : 108 + 0 ≤ _)⟩)
        dsimp only [Pt.U, Pt.locs, Pt.cells, Pt.slots] at X469 l469 y469 z469 st469 hQ469
        subst l469 y469 z469
        obtain ⟨rfl, N469q, e469⟩ := hQ469
        have N469 := Fr.app N392 N469q
        have pre470 : ∀ t, Steps p.tables e below (T469.setTop (mkF m 287 #[.val (.int p0), .val (.int p1), .val (.int p2), .val (.int v248), .val (.int v251), .val (.int v254), .val (.int v260), .val (.int v266), .val (.int v274), .val (.int v278), .val (.int v284), .val (.int v287), .val (.ref b290), .val (.ref b302), .val (.ref b318), .val (.ref b364), .val (.int v466)] [(.int (f9_y (own_cs v248 v251 v254) (own_cs v274 v260 v266) o340 o390))])) t → Steps p.tables e below (s₁.setTop (entryFrame m #[(.int p0), (.int p1), (.int p2)] maxLocals)) t := fun t k => pre468 t (st469.trans k)
        have pre471 : ∀ t, Steps p.tables e below (T469.setTop (mkF m 289 #[.val (.int p0), .val (.int p1), .val (.int p2), .val (.int v248), .val (.int v251), .val (.int v254), .val (.int v260), .val (.int v266), .val (.int v274), .val (.int v278), .val (.int v284), .val (.int v287), .val (.ref b290), .val (.ref b302), .val (.ref b318), .val (.ref b364), .val (.int v466)] [(.int v466), (.int (f9_y (own_cs v248 v251 v254) (own_cs v274 v260 v266) o340 o390))])) t → Steps p.tables e below (s₁.setTop (entryFrame m #[(.int p0), (.int p1), (.int p2)] maxLocals)) t := by
          intro t k
          refine pre470 t ?_
          show Steps p.tables e below (T469.setTop (mkF m 287 #[.val (.int p0), .val (.int p1), .val (.int p2), .val (.int v248), .val (.int v251), .val (.int v254), .val (.int v260), .val (.int v266), .val (.int v274), .val (.int v278), .val (.int v284), .val (.int v287), .val (.ref b290), .val (.ref b302), .val (.ref b318), .val (.ref b364), .val (.int v466)] [(.int (f9_y (own_cs v248 v251 v254) (own_cs v274 v260 v266) o340 o390))])) _
          refine XS.iload X469.here hx rfl (hb hby at_287) rfl ?_
          exact k
        by_cases hc289_472 : (f9_y (own_cs v248 v251 v254) (own_cs v274 v260 v266) o340 o390) = v466
        · have pre473 : ∀ t, Steps p.tables e below (T469.setTop (mkF m 296 #[.val (.int p0), .val (.int p1), .val (.int p2), .val (.int v248), .val (.int v251), .val (.int v254), .val (.int v260), .val (.int v266), .val (.int v274), .val (.int v278), .val (.int v284), .val (.int v287), .val (.ref b290), .val (.ref b302), .val (.ref b318), .val (.ref b364), .val (.int v466)] [(.ref b318), (.ref b364)])) t → Steps p.tables e below (s₁.setTop (entryFrame m #[(.int p0), (.int p1), (.int p2)] maxLocals)) t := by
            intro t k
            refine pre471 t ?_
            show Steps p.tables e below (T469.setTop (mkF m 289 #[.val (.int p0), .val (.int p1), .val (.int p2), .val (.int v248), .val (.int v251), .val (.int v254), .val (.int v260), .val (.int v266), .val (.int v274), .val (.int v278), .val (.int v284), .val (.int v287), .val (.ref b290), .val (.ref b302), .val (.ref b318), .val (.ref b364), .val (.int v466)] [(.int v466), (.int (f9_y (own_cs v248 v251 v254) (own_cs v274 v260 v266) o340 o390))])) _
            refine XS.icmpNo X469.here hx rfl (hb hby at_289) rfl (teq hc289_472).2 ?_
            refine XS.aload X469.here hx rfl (hb hby at_292) rfl rfl ?_
            refine XS.aload X469.here hx rfl (hb hby at_294) rfl rfl ?_
            exact k
          obtain ⟨cq474, kq474, q474a, q474b, q474c⟩ := isOf hZ392 e469 Q392_0
          obtain ⟨_, _, ⟨T474, L474, k474, n474⟩, -, X474, ⟨Lc474, hQ474, l474, y474, z474⟩, st474⟩ := X469.virtualBack hx (y := (⟨"com/example/oversee/oversee/model/Variable", "equals", "(Ljava/lang/Object;)Z"⟩ : MethodName)) (z := (⟨"com/example/oversee/oversee/model/Variable", "equals", "(Ljava/lang/Object;)Z"⟩ : MethodName)) ho392 (mvT hZ392 (hw _ (List.mem_of_getElem? (i := 56) rfl))) (mvT hZ392 (hw _ (List.mem_of_getElem? (i := 57) rfl))) (notFace_of_selects (args := #[]) (mvT hZ392 (hw _ (List.mem_of_getElem? (i := 59) rfl)))) (mvT hZ392 (hw _ (List.mem_of_getElem? (i := 59) rfl))) (mvT hZ392 (hw _ (List.mem_of_getElem? (i := 58) rfl))) (by decide) (backOf (W := 0) (rm9_y l Z ar0 hw [] b364 b318 (own_cs v274 v260 v266) (own_cs v248 v251 v254) gc1 o390 b302 b302b kb302b o340 b290 b290b kb290b h392 n0 Z392 P5 (own_hpcs (own_rg2 hv260 (own_rg1 hv251)) (own_rg2 hv266 (own_rg1 hv254))) own_hlcs (own_hpcs (own_rg1 hv251) (own_rg1 hv254)) own_hlcs Sf393 Q392_0 Q392_2 Q392_1 Ef406 Ff407 Ff408 Vf409 Ef410 Ff413 Ff412 Ef402 Ff403 Ff404 Vf405 ne_b318_b364.symm) hZ392 (hw _ (List.mem_of_getElem? (i := 60) rfl)) (hw _ (List.mem_of_getElem? (i := 32) rfl)) (by decide) (by decide)) q474a q474c (g := (mkF m 296 #[.val (.int p0), .val (.int p1), .val (.int p2), .val (.int v248), .val (.int v251), .val (.int v254), .val (.int v260), .val (.int v266), .val (.int v274), .val (.int v278), .val (.int v284), .val (.int v287), .val (.ref b290), .val (.ref b302), .val (.ref b318), .val (.ref b364), .val (.int v466)] [(.ref b318), (.ref b364)])) rfl (by rw [hml]; rfl) (Steps.refl _) (argsL := [(.ref b318)]) (rest := []) (lenOf pd_7 rfl) rfl (by show 2 * 0 + _ ≤ _; exact Nat.le_of_eq rfl) (hb hby at_296) (fun _ _ => ⟨rfl, e469, (by decide : 22 + 0 ≤ _), (by decide : 108 + 0 ≤ _)⟩)
          dsimp only [Pt.U, Pt.locs, Pt.cells, Pt.slots] at X474 l474 y474 z474 st474 hQ474
          subst l474 y474 z474
          obtain ⟨rfl, N474q, e474⟩ := hQ474
          have N474 := Fr.app N469 N474q
          have pre475 : ∀ t, Steps p.tables e below (T474.setTop (mkF m 299 #[.val (.int p0), .val (.int p1), .val (.int p2), .val (.int v248), .val (.int v251), .val (.int v254), .val (.int v260), .val (.int v266), .val (.int v274), .val (.int v278), .val (.int v284), .val (.int v287), .val (.ref b290), .val (.ref b302), .val (.ref b318), .val (.ref b364), .val (.int v466)] [(.int (f9_y (own_cs v274 v260 v266) (own_cs v248 v251 v254) o390 o340))])) t → Steps p.tables e below (s₁.setTop (entryFrame m #[(.int p0), (.int p1), (.int p2)] maxLocals)) t := fun t k => pre473 t (st474.trans k)
          have pre476 : ∀ t, Steps p.tables e below (T474.setTop (mkF m 301 #[.val (.int p0), .val (.int p1), .val (.int p2), .val (.int v248), .val (.int v251), .val (.int v254), .val (.int v260), .val (.int v266), .val (.int v274), .val (.int v278), .val (.int v284), .val (.int v287), .val (.ref b290), .val (.ref b302), .val (.ref b318), .val (.ref b364), .val (.int v466)] [(.int v466), (.int (f9_y (own_cs v274 v260 v266) (own_cs v248 v251 v254) o390 o340))])) t → Steps p.tables e below (s₁.setTop (entryFrame m #[(.int p0), (.int p1), (.int p2)] maxLocals)) t := by
            intro t k
            refine pre475 t ?_
            show Steps p.tables e below (T474.setTop (mkF m 299 #[.val (.int p0), .val (.int p1), .val (.int p2), .val (.int v248), .val (.int v251), .val (.int v254), .val (.int v260), .val (.int v266), .val (.int v274), .val (.int v278), .val (.int v284), .val (.int v287), .val (.ref b290), .val (.ref b302), .val (.ref b318), .val (.ref b364), .val (.int v466)] [(.int (f9_y (own_cs v274 v260 v266) (own_cs v248 v251 v254) o390 o340))])) _
            refine XS.iload X474.here hx rfl (hb hby at_299) rfl ?_
            exact k
          by_cases hc301_477 : (f9_y (own_cs v274 v260 v266) (own_cs v248 v251 v254) o390 o340) = v466
          · obtain ⟨fs, hr, hrun, hended, hRW⟩ := X474.leaveW (s := s) (vm₁ := T392.vm) hS392 (by rw [e474]; first | exact hk392 | exact Nat.le_refl _) (v := some (.int (1 : Int32))) (fun h => by rw [Bd.returns] at h; cases h)
            refine ⟨_, _, pre476 _ ?_, hrun, hended, _, _, rfl, ?_, hRW.1, hRW.2.1, hRW.2.2.1, hRW.2.2.2.mono (by decide) (by decide)⟩
            · show Steps p.tables e below (T474.setTop (mkF m 301 #[.val (.int p0), .val (.int p1), .val (.int p2), .val (.int v248), .val (.int v251), .val (.int v254), .val (.int v260), .val (.int v266), .val (.int v274), .val (.int v278), .val (.int v284), .val (.int v287), .val (.ref b290), .val (.ref b302), .val (.ref b318), .val (.ref b364), .val (.int v466)] [(.int v466), (.int (f9_y (own_cs v274 v260 v266) (own_cs v248 v251 v254) o390 o340))])) _
              refine XS.icmpNo X474.here hx rfl (hb hby at_301) rfl (teq hc301_477).2 ?_
              refine XS.iconst X474.here hx rfl (hb hby at_304) ?_
              refine XS.goto X474.here hx rfl (pc0 := 305) (pc' := 309) rfl (hb hby at_305) (by decide) (by decide) ?_
              exact retN X474 hx (t := .boolean) Bd.returns (by simp) (hb hby at_309) hr
            · show Q0 Z p0 p1 p2 gc1 s_INT s_REAL s_BOOL s_STRING h0 n0 _ T474.heap _
              rw [e474]
              exact ⟨rfl, N474⟩
          · have pre478 : ∀ t, Steps p.tables e below (T474.setTop (mkF m 309 #[.val (.int p0), .val (.int p1), .val (.int p2), .val (.int v248), .val (.int v251), .val (.int v254), .val (.int v260), .val (.int v266), .val (.int v274), .val (.int v278), .val (.int v284), .val (.int v287), .val (.ref b290), .val (.ref b302), .val (.ref b318), .val (.ref b364), .val (.int v466)] [(.int (0 : Int32))])) t → Steps p.tables e below (s₁.setTop (entryFrame m #[(.int p0), (.int p1), (.int p2)] maxLocals)) t := by
              intro t k
              refine pre476 t ?_
              show Steps p.tables e below (T474.setTop (mkF m 301 #[.val (.int p0), .val (.int p1), .val (.int p2), .val (.int v248), .val (.int v251), .val (.int v254), .val (.int v260), .val (.int v266), .val (.int v274), .val (.int v278), .val (.int v284), .val (.int v287), .val (.ref b290), .val (.ref b302), .val (.ref b318), .val (.ref b364), .val (.int v466)] [(.int v466), (.int (f9_y (own_cs v274 v260 v266) (own_cs v248 v251 v254) o390 o340))])) _
              refine XS.icmpYes X474.here hx rfl (pc0 := 301) (pc' := 308) rfl (hb hby at_301) rfl (feq hc301_477).2 (by decide) (by decide) ?_
              refine XS.iconst X474.here hx rfl (hb hby at_308) ?_
              exact k
            exact (own_leaf1 hne_BOOL_STRING hne_REAL_STRING hne_REAL_BOOL hne_INT_STRING hne_INT_BOOL hne_INT_REAL P5 hv248 hv251 hv254 hv260 hv266 hv274 hv278 hv284 hv287 ho340 ho390 hc182_418 hc196_423 hc217_428 hv466 hc289_472 hc301_477).elim
        · have pre479 : ∀ t, Steps p.tables e below (T469.setTop (mkF m 309 #[.val (.int p0), .val (.int p1), .val (.int p2), .val (.int v248), .val (.int v251), .val (.int v254), .val (.int v260), .val (.int v266), .val (.int v274), .val (.int v278), .val (.int v284), .val (.int v287), .val (.ref b290), .val (.ref b302), .val (.ref b318), .val (.ref b364), .val (.int v466)] [(.int (0 : Int32))])) t → Steps p.tables e below (s₁.setTop (entryFrame m #[(.int p0), (.int p1), (.int p2)] maxLocals)) t := by
            intro t k
            refine pre471 t ?_
            show Steps p.tables e below (T469.setTop (mkF m 289 #[.val (.int p0), .val (.int p1), .val (.int p2), .val (.int v248), .val (.int v251), .val (.int v254), .val (.int v260), .val (.int v266), .val (.int v274), .val (.int v278), .val (.int v284), .val (.int v287), .val (.ref b290), .val (.ref b302), .val (.ref b318), .val (.ref b364), .val (.int v466)] [(.int v466), (.int (f9_y (own_cs v248 v251 v254) (own_cs v274 v260 v266) o340 o390))])) _
            refine XS.icmpYes X469.here hx rfl (pc0 := 289) (pc' := 308) rfl (hb hby at_289) rfl (feq hc289_472).2 (by decide) (by decide) ?_
            refine XS.iconst X469.here hx rfl (hb hby at_308) ?_
            exact k
          exact (own_leaf2 hne_BOOL_STRING hne_REAL_STRING hne_REAL_BOOL hne_INT_STRING hne_INT_BOOL hne_INT_REAL P5 hv248 hv251 hv254 hv260 hv266 hv274 hv278 hv284 hv287 ho340 ho390 hc182_418 hc196_423 hc217_428 hv466 hc289_472).elim
set_option maxRecDepth 65536 in
set_option maxHeartbeats 40000000 in
theorem comes_1 {Post : Tables → Env → Array Value → State → Outcome → State → Prop} (hpost : ∀ tb e args s v u, (limb_1_1.after args s (.returned v) u = true ∧ limb_1_2.after args s (.returned v) u = true ∧ True) → ReturnedEndW s (.returned v) u (Jvm.fieldLocs frame_1_writes args s ++ Jvm.arrayLocs frame_1_arrays args s ++ Jvm.staticLocs frame_1_statics s) 32 3200 → Post tb e args s (.returned v) u) :
    ArmFor flags0 classFile x code maxLocals ret World_1 tables_1 room_1 Calls_1 rest_1 Pre_1 Post := by
  intro l hfl _ _ p e ha hc hk s m args below hf hA hF happ hP
  obtain ⟨hcalls, hrest, hpre⟩ := hP
  obtain ⟨-, -, -, hnamed, -, -, -, hat⟩ := (Spec.applies_iff hf).mp happ
  obtain ⟨hg, hn⟩ := and_e (Cond.before_iff.mp (show (Jvm.Cond.and given_1 narrow_1).before args s = true from hpre))
  obtain ⟨hcount, hg0⟩ := and_e hg
  obtain ⟨ha0, hg1⟩ := and_e hg0
  obtain ⟨ha1, hg2⟩ := and_e hg1
  have ha2 := hg2
  obtain ⟨w0, w1, w2, rfl⟩ : ∃ w0 w1 w2 : Value, args = #[w0, w1, w2] := by
    have hs : args.size = 3 := by simpa [Cond.value, given_1] using hcount
    obtain ⟨L⟩ := args
    match L, hs with
    | [w0, w1, w2], _ => exact ⟨w0, w1, w2, rfl⟩
  have hw := fun d (hd : d ∈ tables_1) => atoms_spec (ws := Jvm.Cond.code x code maxLocals ret :: tables_1) hat d (List.mem_cons_of_mem _ hd)
  have hfit : Fit s := fun {y c} hc i hi => by
    obtain ⟨ha, rfl⟩ := Array.getElem?_eq_some_iff.mp hc
    have q := List.all_eq_true.mp ((Array.all_eq_true_iff_forall_mem.mp hF) _ (Array.getElem_mem ha)) i (List.mem_range.mpr hi)
    simpa [Array.getElem?_eq_getElem hi] using q
  obtain ⟨hsets, hown0⟩ := atoms_of _ (rest_1_c_eq ▸ (show rest_1_c.before _ s = true from hrest))
  have hr0 := Cond.before_iff.mp hown0
  obtain ⟨i0, ei0⟩ := is_v ha0
  obtain rfl : w0 = (.int i0) := Option.some.inj ei0
  obtain ⟨i1, ei1⟩ := is_v ha1
  obtain rfl : w1 = (.int i1) := Option.some.inj ei1
  obtain ⟨i2, ei2⟩ := is_v ha2
  obtain rfl : w2 = (.int i2) := Option.some.inj ei2
  obtain ⟨hn1a, hn1b⟩ := and_e hn
  obtain ⟨s_INT, hs_INT⟩ := exa_v hn1a
  have S_INT := Sta.start hs_INT (Or.inr ⟨(hw _ (List.mem_of_getElem? (i := 37) rfl)), (hw _ (List.mem_of_getElem? (i := 38) rfl))⟩)
  have E_s_INT := Exa.start hs_INT hn1a
  obtain ⟨hn2a, hn2b⟩ := and_e hn1b
  obtain ⟨s_REAL, hs_REAL⟩ := exa_v hn2a
  have S_REAL := Sta.start hs_REAL (Or.inr ⟨(hw _ (List.mem_of_getElem? (i := 37) rfl)), (hw _ (List.mem_of_getElem? (i := 77) rfl))⟩)
  have E_s_REAL := Exa.start hs_REAL hn2a
  obtain ⟨hn3a, hn3b⟩ := and_e hn2b
  obtain ⟨s_STRING, hs_STRING⟩ := exa_v hn3a
  have S_STRING := Sta.start hs_STRING (Or.inr ⟨(hw _ (List.mem_of_getElem? (i := 37) rfl)), (hw _ (List.mem_of_getElem? (i := 89) rfl))⟩)
  have E_s_STRING := Exa.start hs_STRING hn3a
  obtain ⟨hn4a, hn4b⟩ := and_e hn3b
  obtain ⟨s_BOOL, hs_BOOL⟩ := exa_v hn4a
  have S_BOOL := Sta.start hs_BOOL (Or.inr ⟨(hw _ (List.mem_of_getElem? (i := 37) rfl)), (hw _ (List.mem_of_getElem? (i := 101) rfl))⟩)
  have E_s_BOOL := Exa.start hs_BOOL hn4a
  obtain ⟨hn5a, hn5b⟩ := and_e hn4b
  have F_ordinal_s_REAL := Fld.start ((fld_at hs_REAL).symm.trans (own_eqI hn5a))
  obtain ⟨hn6a, hn6b⟩ := and_e hn5b
  have F_ordinal_s_INT := Fld.start ((fld_at hs_INT).symm.trans (own_eqI hn6a))
  obtain ⟨hn7a, hn7b⟩ := and_e hn6b
  have F_ordinal_s_STRING := Fld.start ((fld_at hs_STRING).symm.trans (own_eqI hn7a))
  have F_ordinal_s_BOOL := Fld.start ((fld_at hs_BOOL).symm.trans (own_eqI hn7b))
  have hj0 := hsets _ (List.mem_of_getElem? (i := 0) rfl)
  have hj1 := Cond.before_iff.mp (hsets _ (List.mem_of_getElem? (i := 1) rfl))
  have hj2 := Cond.before_iff.mp (hsets _ (List.mem_of_getElem? (i := 2) rfl))
  obtain ⟨gc1, hG1⟩ := is_v hj1
  have S1 := Sta.start hG1 (Or.inl hj0)
  have P5 := own_neI hG1 hj2
  have hCH : CHv s own_EL s.vm s.heap := CHv.start (own_EW hw) (fun p hp => hcalls.1 p ((by decide : ∀ p ∈ own_EL, p ∈ consts_1) p hp)) (hsets _ (List.mem_of_getElem? (i := 2) rfl)) (own_strW hw _ (by decide)) (own_strW hw _ (by decide))
  have hne_INT_REAL : s_INT ≠ s_REAL := by
    intro q
    have q0 := ((fld_at hs_INT).symm.trans (own_eqI hn6a))
    have q1 := ((fld_at hs_REAL).symm.trans (own_eqI hn5a))
    rw [q] at q0
    exact absurd (Value.int.inj (Option.some.inj (q0.symm.trans q1))) (by decide)
  have hne_INT_BOOL : s_INT ≠ s_BOOL := by
    intro q
    have q0 := ((fld_at hs_INT).symm.trans (own_eqI hn6a))
    have q1 := ((fld_at hs_BOOL).symm.trans (own_eqI hn7b))
    rw [q] at q0
    exact absurd (Value.int.inj (Option.some.inj (q0.symm.trans q1))) (by decide)
  have hne_INT_STRING : s_INT ≠ s_STRING := by
    intro q
    have q0 := ((fld_at hs_INT).symm.trans (own_eqI hn6a))
    have q1 := ((fld_at hs_STRING).symm.trans (own_eqI hn7a))
    rw [q] at q0
    exact absurd (Value.int.inj (Option.some.inj (q0.symm.trans q1))) (by decide)
  have hne_REAL_BOOL : s_REAL ≠ s_BOOL := by
    intro q
    have q0 := ((fld_at hs_REAL).symm.trans (own_eqI hn5a))
    have q1 := ((fld_at hs_BOOL).symm.trans (own_eqI hn7b))
    rw [q] at q0
    exact absurd (Value.int.inj (Option.some.inj (q0.symm.trans q1))) (by decide)
  have hne_REAL_STRING : s_REAL ≠ s_STRING := by
    intro q
    have q0 := ((fld_at hs_REAL).symm.trans (own_eqI hn5a))
    have q1 := ((fld_at hs_STRING).symm.trans (own_eqI hn7a))
    rw [q] at q0
    exact absurd (Value.int.inj (Option.some.inj (q0.symm.trans q1))) (by decide)
  have hne_BOOL_STRING : s_BOOL ≠ s_STRING := by
    intro q
    have q0 := ((fld_at hs_BOOL).symm.trans (own_eqI hn7b))
    have q1 := ((fld_at hs_STRING).symm.trans (own_eqI hn7a))
    rw [q] at q0
    exact absurd (Value.int.inj (Option.some.inj (q0.symm.trans q1))) (by decide)
  obtain ⟨n, o, h1, h2, h3, _, L, rfl, ⟨rfl, N⟩, hq⟩ := rm0 l s _ hw tables_1 i0 i1 i2 gc1 s_INT s_REAL s_BOOL s_STRING s.heap s.heap.size (Nat.le_refl _) P5 hne_INT_REAL hne_INT_BOOL hne_INT_STRING hne_REAL_BOOL hne_REAL_STRING hne_BOOL_STRING S1 S_INT S_REAL S_BOOL S_STRING E_s_INT E_s_REAL E_s_BOOL E_s_STRING p e ha hc hk s m _ below hf ((Spec.applies_iff_loose hf).mp happ).1 ⟨rfl, State.Warmed39.refl s, rfl, hCH⟩ trivial
  refine ⟨n, _, h1, h2, h3, hpost _ _ _ _ _ _ ⟨Cond.after_iff.mpr rfl, Cond.after_iff.mpr (eq_i res_at (Term.int_eval (1)) rfl), trivial⟩ ⟨hq.1, hq.2.1, hq.2.2.1, (hq.2.2.2.sift fun y hy => Or.inr (N y hy)).mono (by decide) (by decide)⟩⟩
theorem main_1_1 : Claimed_1_1 := comes_1 fun _ _ _ _ _ _ h hF => ⟨h.1, hF⟩
theorem main_1_2 : Claimed_1_2 := comes_1 fun _ _ _ _ _ _ h hF => ⟨h.2.1, hF⟩
end Jvm.Pilot.@@N@@
namespace Jvm.Pilot.@@N@@
open Jvm Jvm.ClassFile Sem Op Lib Jvm.Free Jvm.Stand Jvm.Pilot.@@N@@.Jvm.D
/-! MADE BY PROGRAM (witnessworld.py) out of the Statement's table words and the real class files: 24 classes; the members and pool entries that the words name. The judged class is class 1, her method 3. -/
namespace start1
open Jvm.ClassFile
def u (s : String) : CpInfo := .utf8 (stringToUtf16 s)
/-- a pool by its gaps: so many unusable entries, then the entry; so many at the end -/
def gap : Nat → List CpInfo → List CpInfo
  | 0, r => r
  | n + 1, r => .unusable :: gap n r
def poolList (es : List (Nat × CpInfo)) (last : Nat) : List CpInfo := es.foldr (fun e r => gap e.1 (e.2 :: r)) (gap last [])
def pool (es : List (Nat × CpInfo)) (last : Nat) : Array CpInfo := ⟨poolList es last⟩
def fileOf (pool : Array CpInfo) (this : Nat) (attrs : Array Attribute := #[]) (ms : Array MethodInfo := #[]) (fl : Nat := 33) (sup : Nat := 0) (ifs : Array Nat := #[]) (fds : Array FieldInfo := #[]) : ClassFile where
  minorVersion := 0
  majorVersion := 65
  constantPool := pool
  accessFlags := fl
  thisClass := this
  superClass := sup
  interfaces := ifs
  fields := fds
  methods := ms
  attributes := attrs
def plain (name : String) (sup : Option ClassId) : Class where
  name := name
  kind := .ordinary
  loader := none
  accessFlags := 33
  super := sup
  interfaces := #[]
  cf := none
  fields := #[]
  methods := #[]
  instanceTypes := #[]
  staticTypes := #[]
  resolved := #[]
  callSites := []
  init := .initialized
  statics := none
  mirror := none

def pool0 : Array CpInfo := pool [(5, u "<init>"), (0, u "()V"), (1, .class_ 10), (1, u "java/lang/Object")] 113

def k0c0 : Code := { maxStack := 0, maxLocals := 1, code := object_method_1_code, exceptionTable := #[], attributes := #[] }
def k0m0 : Method := { name := "<init>", desc := "()V", sig := { parameters := [], returnType := none }, accessFlags := 1, code := some k0c0 }
/-- java/lang/Object -/
def k0 : Class := { plain "java/lang/Object" none with
  accessFlags := 33
  interfaces := #[]
  cf := some (fileOf pool0 8 #[] #[{ accessFlags := 1, nameIndex := 5, descriptorIndex := 6, attributes := #[] }] 33 0 #[] #[])
  fields := #[]
  methods := #[k0m0]
  instanceTypes := #[]
  staticTypes := #[]
  resolved := Array.replicate 124 none
  statics := none }

def pool1 : Array CpInfo := pool [(2, .class_ 4), (1, u "java/lang/Object"), (0, u "<init>"), (0, u "()V"), (0, .class_ 8), (0, u "java/lang/String"), (0, .methodref 7 10), (0, .nameAndType 5 11), (0, u "([C)V"), (0, .methodref 7 13), (0, .nameAndType 14 15), (0, u "valueOf"), (0, u "(C)Ljava/lang/String;"), (0, .fieldref 17 18), (0, .class_ 19), (0, .nameAndType 20 21), (0, u "com/example/oversee/oversee/model/Sort"), (0, u "INT"), (0, u "Lcom/example/oversee/oversee/model/Sort;"), (0, .fieldref 17 23), (0, .nameAndType 24 21), (0, u "REAL"), (0, .fieldref 17 26), (0, .nameAndType 27 21), (0, u "BOOL"), (0, .fieldref 17 29), (0, .nameAndType 30 21), (0, u "STRING"), (0, .methodref 32 33), (0, .class_ 34), (0, .nameAndType 35 36), (0, u "java/lang/Math"), (0, u "min"), (0, u "(II)I"), (0, .methodref 38 39), (0, .class_ 40), (0, .nameAndType 41 42), (0, u "com/example/oversee/oversee/model/VariableEqualsPinLaw"), (0, u "mk"), (0, u "(ICC)Ljava/lang/String;"), (0, .class_ 44), (0, u "com/example/oversee/oversee/model/Variable"), (0, .methodref 38 46), (0, .nameAndType 47 48), (0, u "sortOf"), (0, u "(I)Lcom/example/oversee/oversee/model/Sort;"), (0, .methodref 43 50), (0, .nameAndType 5 51), (0, u "(Ljava/lang/String;Lcom/example/oversee/oversee/model/Sort;)V"), (0, .methodref 43 53), (0, .nameAndType 54 55), (0, u "equals"), (0, u "(Ljava/lang/Object;)Z"), (3, u "law"), (0, u "(III)Z")] 2

def k1m0 : Method := { name := "<init>", desc := "()V", sig := { parameters := [], returnType := none }, accessFlags := 1, code := none }
def k1c1 : Code := { maxStack := 6, maxLocals := 3, code := method_2_code, exceptionTable := #[], attributes := #[] }
def k1m1 : Method := { name := "mk", desc := "(ICC)Ljava/lang/String;", sig := { parameters := [.int, .char, .char], returnType := some (.object "java/lang/String") }, accessFlags := 10, code := some k1c1 }
def k1c2 : Code := { maxStack := 2, maxLocals := 1, code := method_3_code, exceptionTable := #[], attributes := #[] }
def k1m2 : Method := { name := "sortOf", desc := "(I)Lcom/example/oversee/oversee/model/Sort;", sig := { parameters := [.int], returnType := some (.object "com/example/oversee/oversee/model/Sort") }, accessFlags := 10, code := some k1c2 }
def k1c3 : Code := { maxStack := 4, maxLocals := 17, code := code, exceptionTable := #[], attributes := #[] }
def k1m3 : Method := { name := "law", desc := "(III)Z", sig := { parameters := [.int, .int, .int], returnType := some .boolean }, accessFlags := 9, code := some k1c3 }
/-- com/example/oversee/oversee/model/VariableEqualsPinLaw -/
def k1 : Class := { plain "com/example/oversee/oversee/model/VariableEqualsPinLaw" (some 0) with
  accessFlags := 49
  interfaces := #[]
  cf := some (fileOf pool1 38 #[] #[{ accessFlags := 1, nameIndex := 5, descriptorIndex := 6, attributes := #[] }, { accessFlags := 10, nameIndex := 41, descriptorIndex := 42, attributes := #[] }, { accessFlags := 10, nameIndex := 47, descriptorIndex := 48, attributes := #[] }, { accessFlags := 9, nameIndex := 59, descriptorIndex := 60, attributes := #[] }] 49 2 #[] #[])
  fields := #[]
  methods := #[k1m0, k1m1, k1m2, k1m3]
  instanceTypes := #[]
  staticTypes := #[]
  resolved := Array.replicate 63 none
  statics := none }

def pool2 : Array CpInfo := pool [(1, .class_ 2), (0, u "java/lang/Math"), (1, .class_ 6), (1, u "java/lang/Object"), (0, u "<init>"), (0, u "()V"), (89, .class_ 100), (1, u "java/lang/Math$RandomNumberGeneratorHolder"), (71, u "negativeZeroFloatBits"), (0, u "J"), (2, u "negativeZeroDoubleBits"), (24, u "min"), (43, u "$assertionsDisabled"), (0, u "Z"), (88, u "(II)I"), (2, u "twoToTheDoubleScaleDown"), (0, u "D"), (4, u "twoToTheDoubleScaleUp"), (9, u "E"), (3, u "PI"), (2, u "TAU"), (2, u "DEGREES_TO_RADIANS"), (0, u "RADIANS_TO_DEGREES")] 94

def k2m0 : Method := { name := "<init>", desc := "()V", sig := { parameters := [], returnType := none }, accessFlags := 2, code := none }
def k2c1 : Code := { maxStack := 2, maxLocals := 2, code := jdk_29_method_69_code, exceptionTable := #[], attributes := #[] }
def k2m1 : Method := { name := "min", desc := "(II)I", sig := { parameters := [.int, .int], returnType := some .int }, accessFlags := 9, code := some k2c1 }
/-- java/lang/Math -/
def k2 : Class := { plain "java/lang/Math" (some 0) with
  accessFlags := 49
  interfaces := #[]
  cf := some (fileOf pool2 1 #[.nestMembers #[98]] #[{ accessFlags := 2, nameIndex := 7, descriptorIndex := 8, attributes := #[] }, { accessFlags := 9, nameIndex := 201, descriptorIndex := 335, attributes := #[] }] 49 4 #[] #[{ accessFlags := 25, nameIndex := 354, descriptorIndex := 339, attributes := #[] }, { accessFlags := 25, nameIndex := 358, descriptorIndex := 339, attributes := #[] }, { accessFlags := 25, nameIndex := 361, descriptorIndex := 339, attributes := #[] }, { accessFlags := 26, nameIndex := 364, descriptorIndex := 339, attributes := #[] }, { accessFlags := 26, nameIndex := 365, descriptorIndex := 339, attributes := #[] }, { accessFlags := 26, nameIndex := 172, descriptorIndex := 173, attributes := #[] }, { accessFlags := 26, nameIndex := 176, descriptorIndex := 173, attributes := #[] }, { accessFlags := 8, nameIndex := 344, descriptorIndex := 339, attributes := #[] }, { accessFlags := 8, nameIndex := 338, descriptorIndex := 339, attributes := #[] }, { accessFlags := 4120, nameIndex := 245, descriptorIndex := 246, attributes := #[] }])
  fields := #[{ name := "E", type := .double, accessFlags := 25, slot := 0, constantValue := 0 }, { name := "PI", type := .double, accessFlags := 25, slot := 1, constantValue := 0 }, { name := "TAU", type := .double, accessFlags := 25, slot := 2, constantValue := 0 }, { name := "DEGREES_TO_RADIANS", type := .double, accessFlags := 26, slot := 3, constantValue := 0 }, { name := "RADIANS_TO_DEGREES", type := .double, accessFlags := 26, slot := 4, constantValue := 0 }, { name := "negativeZeroFloatBits", type := .long, accessFlags := 26, slot := 5, constantValue := 0 }, { name := "negativeZeroDoubleBits", type := .long, accessFlags := 26, slot := 6, constantValue := 0 }, { name := "twoToTheDoubleScaleUp", type := .double, accessFlags := 8, slot := 7, constantValue := 0 }, { name := "twoToTheDoubleScaleDown", type := .double, accessFlags := 8, slot := 8, constantValue := 0 }, { name := "$assertionsDisabled", type := .boolean, accessFlags := 4120, slot := 9, constantValue := 0 }]
  methods := #[k2m0, k2m1]
  instanceTypes := #[]
  staticTypes := #[.double, .double, .double, .double, .double, .long, .long, .double, .double, .boolean]
  resolved := Array.replicate 460 none
  statics := none }

def pool3 : Array CpInfo := pool [(1, .class_ 2), (0, u "java/io/Serializable"), (0, .class_ 4), (0, u "java/lang/Object")] 2

/-- java/io/Serializable -/
def k3 : Class := { plain "java/io/Serializable" (some 0) with
  accessFlags := 1537
  interfaces := #[]
  cf := some (fileOf pool3 1 #[] #[] 1537 3 #[] #[])
  fields := #[]
  methods := #[]
  instanceTypes := #[]
  staticTypes := #[]
  resolved := Array.replicate 7 none
  statics := none }

def pool4 : Array CpInfo := pool [(1, .class_ 2), (0, u "java/lang/Comparable"), (0, .class_ 4), (0, u "java/lang/Object")] 7

/-- java/lang/Comparable -/
def k4 : Class := { plain "java/lang/Comparable" (some 0) with
  accessFlags := 1537
  interfaces := #[]
  cf := some (fileOf pool4 1 #[] #[] 1537 3 #[] #[])
  fields := #[]
  methods := #[]
  instanceTypes := #[]
  staticTypes := #[]
  resolved := Array.replicate 12 none
  statics := none }

def pool5 : Array CpInfo := pool [(2, .class_ 4), (1, u "java/lang/CharSequence"), (42, .class_ 48), (0, u "java/lang/CharSequence$1CodePointIterator"), (10, .class_ 60), (0, u "java/lang/CharSequence$1CharIterator"), (5, .class_ 67), (0, u "java/lang/Object")] 63

/-- java/lang/CharSequence -/
def k5 : Class := { plain "java/lang/CharSequence" (some 0) with
  accessFlags := 1537
  interfaces := #[]
  cf := some (fileOf pool5 2 #[.nestMembers #[47, 59]] #[] 1537 66 #[] #[])
  fields := #[]
  methods := #[]
  instanceTypes := #[]
  staticTypes := #[]
  resolved := Array.replicate 131 none
  statics := none }

def pool6 : Array CpInfo := pool [(1, .class_ 2), (0, u "java/lang/constant/Constable"), (0, .class_ 4), (0, u "java/lang/Object")] 6

/-- java/lang/constant/Constable -/
def k6 : Class := { plain "java/lang/constant/Constable" (some 0) with
  accessFlags := 1537
  interfaces := #[]
  cf := some (fileOf pool6 1 #[] #[] 1537 3 #[] #[])
  fields := #[]
  methods := #[]
  instanceTypes := #[]
  staticTypes := #[]
  resolved := Array.replicate 11 none
  statics := none }

def pool7 : Array CpInfo := pool [(1, .class_ 2), (0, u "java/lang/constant/ConstantDesc"), (0, .class_ 4), (0, u "java/lang/Object")] 32

/-- java/lang/constant/ConstantDesc -/
def k7 : Class := { plain "java/lang/constant/ConstantDesc" (some 0) with
  accessFlags := 1537
  interfaces := #[]
  cf := some (fileOf pool7 1 #[] #[] 1537 3 #[] #[])
  fields := #[]
  methods := #[]
  instanceTypes := #[]
  staticTypes := #[]
  resolved := Array.replicate 37 none
  statics := none }

def pool8 : Array CpInfo := pool [(1, .methodref 2 3), (0, .class_ 4), (0, .nameAndType 5 6), (0, u "java/lang/Object"), (0, u "<init>"), (0, u "()V"), (0, .string 8), (0, u ""), (0, .fieldref 10 11), (0, .class_ 12), (0, .nameAndType 13 14), (0, u "java/lang/String"), (0, u "value"), (0, u "[B"), (0, .fieldref 10 16), (0, .nameAndType 17 18), (0, u "coder"), (0, u "B"), (2, u "hash"), (0, u "I"), (2, u "hashIsZero"), (0, u "Z"), (0, .methodref 10 28), (0, .nameAndType 5 29), (0, u "([CIILjava/lang/Void;)V"), (8, .fieldref 10 39), (0, .nameAndType 40 26), (0, u "COMPACT_STRINGS"), (1, .class_ 44), (1, u "java/lang/StringUTF16"), (0, u "compress"), (1, .methodref 42 48), (0, .nameAndType 49 50), (0, u "coderFromArrayLen"), (0, u "([BI)B"), (2, u "toBytes"), (53, .class_ 109), (1, u "java/lang/StringLatin1"), (67, .methodref 42 178), (0, .nameAndType 45 179), (0, u "([CII)[B"), (29, .methodref 10 210), (0, .nameAndType 5 211), (0, u "([BB)V"), (157, u "(C)Z"), (171, .methodref 107 542), (0, .nameAndType 543 544), (0, u "equals"), (0, u "([B[B)Z"), (28, u "(Ljava/lang/Object;)Z"), (1, .class_ 576), (0, u "java/lang/CharSequence"), (22, u "CASE_INSENSITIVE_ORDER"), (0, u "Ljava/util/Comparator;"), (181, u "valueOf"), (0, u "(C)Ljava/lang/String;"), (226, u "([C)V"), (4, .methodref 107 1016), (0, .nameAndType 1017 369), (0, u "canEncode"), (0, .methodref 107 1019), (0, .nameAndType 53 1020), (0, u "(C)[B"), (80, u "serialPersistentFields"), (0, u "[Ljava/io/ObjectStreamField;"), (0, .class_ 1104), (0, u "java/lang/String$CaseInsensitiveComparator"), (1, .class_ 1107), (0, u "java/io/Serializable"), (0, .class_ 1109), (0, u "java/lang/Comparable"), (0, .class_ 1111), (0, u "java/lang/constant/Constable"), (0, .class_ 1113), (0, u "java/lang/constant/ConstantDesc"), (2, u "serialVersionUID"), (0, u "J"), (3, u "REPL"), (0, u "C"), (2, u "LATIN1"), (1, u "UTF16")] 323

def k8m0 : Method := { name := "<init>", desc := "()V", sig := { parameters := [], returnType := none }, accessFlags := 1, code := none }
def k8c1 : Code := { maxStack := 5, maxLocals := 2, code := jdk_42_method_3_code, exceptionTable := #[], attributes := #[] }
def k8m1 : Method := { name := "<init>", desc := "([C)V", sig := { parameters := [(.array .char)], returnType := none }, accessFlags := 1, code := some k8c1 }
def k8c2 : Code := { maxStack := 2, maxLocals := 3, code := jdk_42_method_66_code, exceptionTable := #[], attributes := #[] }
def k8m2 : Method := { name := "equals", desc := "(Ljava/lang/Object;)Z", sig := { parameters := [(.object "java/lang/Object")], returnType := some .boolean }, accessFlags := 1, code := some k8c2 }
def k8c3 : Code := { maxStack := 4, maxLocals := 1, code := jdk_42_method_139_code, exceptionTable := #[], attributes := #[] }
def k8m3 : Method := { name := "valueOf", desc := "(C)Ljava/lang/String;", sig := { parameters := [.char], returnType := some (.object "java/lang/String") }, accessFlags := 9, code := some k8c3 }
def k8c4 : Code := { maxStack := 4, maxLocals := 6, code := jdk_42_method_149_code, exceptionTable := #[], attributes := #[] }
def k8m4 : Method := { name := "<init>", desc := "([CIILjava/lang/Void;)V", sig := { parameters := [(.array .char), .int, .int, (.object "java/lang/Void")], returnType := none }, accessFlags := 2, code := some k8c4 }
def k8c5 : Code := { maxStack := 2, maxLocals := 3, code := jdk_42_method_151_code, exceptionTable := #[], attributes := #[] }
def k8m5 : Method := { name := "<init>", desc := "([BB)V", sig := { parameters := [(.array .byte), .byte], returnType := none }, accessFlags := 0, code := some k8c5 }
/-- java/lang/String -/
def k8 : Class := { plain "java/lang/String" (some 0) with
  accessFlags := 49
  interfaces := #[3, 4, 5, 6, 7]
  cf := some (fileOf pool8 10 #[.nestMembers #[1103]] #[{ accessFlags := 1, nameIndex := 5, descriptorIndex := 6, attributes := #[] }, { accessFlags := 1, nameIndex := 5, descriptorIndex := 1010, attributes := #[] }, { accessFlags := 1, nameIndex := 543, descriptorIndex := 573, attributes := #[] }, { accessFlags := 9, nameIndex := 782, descriptorIndex := 783, attributes := #[] }, { accessFlags := 2, nameIndex := 5, descriptorIndex := 29, attributes := #[] }, { accessFlags := 0, nameIndex := 5, descriptorIndex := 211, attributes := #[] }] 49 2 #[1106, 1108, 575, 1110, 1112] #[{ accessFlags := 18, nameIndex := 13, descriptorIndex := 14, attributes := #[] }, { accessFlags := 18, nameIndex := 17, descriptorIndex := 18, attributes := #[] }, { accessFlags := 2, nameIndex := 21, descriptorIndex := 22, attributes := #[] }, { accessFlags := 2, nameIndex := 25, descriptorIndex := 26, attributes := #[] }, { accessFlags := 26, nameIndex := 1116, descriptorIndex := 1117, attributes := #[] }, { accessFlags := 24, nameIndex := 40, descriptorIndex := 26, attributes := #[] }, { accessFlags := 26, nameIndex := 1101, descriptorIndex := 1102, attributes := #[] }, { accessFlags := 26, nameIndex := 1121, descriptorIndex := 1122, attributes := #[] }, { accessFlags := 25, nameIndex := 599, descriptorIndex := 600, attributes := #[] }, { accessFlags := 24, nameIndex := 1125, descriptorIndex := 18, attributes := #[] }, { accessFlags := 24, nameIndex := 1127, descriptorIndex := 18, attributes := #[] }])
  fields := #[{ name := "value", type := (.array .byte), accessFlags := 18, slot := 0, constantValue := 0 }, { name := "coder", type := .byte, accessFlags := 18, slot := 1, constantValue := 0 }, { name := "hash", type := .int, accessFlags := 2, slot := 2, constantValue := 0 }, { name := "hashIsZero", type := .boolean, accessFlags := 2, slot := 3, constantValue := 0 }, { name := "serialVersionUID", type := .long, accessFlags := 26, slot := 0, constantValue := 0 }, { name := "COMPACT_STRINGS", type := .boolean, accessFlags := 24, slot := 1, constantValue := 0 }, { name := "serialPersistentFields", type := (.array (.object "java/io/ObjectStreamField")), accessFlags := 26, slot := 2, constantValue := 0 }, { name := "REPL", type := .char, accessFlags := 26, slot := 3, constantValue := 0 }, { name := "CASE_INSENSITIVE_ORDER", type := (.object "java/util/Comparator"), accessFlags := 25, slot := 4, constantValue := 0 }, { name := "LATIN1", type := .byte, accessFlags := 24, slot := 5, constantValue := 0 }, { name := "UTF16", type := .byte, accessFlags := 24, slot := 6, constantValue := 0 }]
  methods := #[k8m0, k8m1, k8m2, k8m3, k8m4, k8m5]
  instanceTypes := #[(.array .byte), .byte, .int, .boolean]
  staticTypes := #[.long, .boolean, (.array (.object "java/io/ObjectStreamField")), .char, (.object "java/util/Comparator"), .byte, .byte]
  resolved := Array.replicate 1451 none
  statics := some 0 }

def pool9 : Array CpInfo := pool [(1, .methodref 2 3), (0, .class_ 4), (0, .nameAndType 5 6), (0, u "java/lang/Object"), (0, u "<init>"), (0, u "()V"), (0, .string 8), (0, u "name"), (0, .methodref 10 11), (0, .class_ 12), (0, .nameAndType 13 14), (0, u "java/util/Objects"), (0, u "requireNonNull"), (0, u "(Ljava/lang/Object;Ljava/lang/String;)Ljava/lang/Object;"), (0, .class_ 16), (0, u "java/lang/String"), (0, .fieldref 18 19), (0, .class_ 20), (0, .nameAndType 8 21), (0, u "com/example/oversee/oversee/model/Variable"), (0, u "Ljava/lang/String;"), (0, .string 23), (0, u "sort"), (0, .class_ 25), (0, u "com/example/oversee/oversee/model/Sort"), (0, .fieldref 18 27), (0, .nameAndType 23 28), (0, u "Lcom/example/oversee/oversee/model/Sort;"), (0, .methodref 15 30), (0, .nameAndType 31 32), (0, u "equals"), (0, u "(Ljava/lang/Object;)Z"), (12, u "(Ljava/lang/String;Lcom/example/oversee/oversee/model/Sort;)V")] 27

def k9c0 : Code := { maxStack := 3, maxLocals := 3, code := prog_34_method_1_code, exceptionTable := #[], attributes := #[] }
def k9m0 : Method := { name := "<init>", desc := "(Ljava/lang/String;Lcom/example/oversee/oversee/model/Sort;)V", sig := { parameters := [(.object "java/lang/String"), (.object "com/example/oversee/oversee/model/Sort")], returnType := none }, accessFlags := 1, code := some k9c0 }
def k9c1 : Code := { maxStack := 2, maxLocals := 3, code := prog_34_method_4_code, exceptionTable := #[], attributes := #[] }
def k9m1 : Method := { name := "equals", desc := "(Ljava/lang/Object;)Z", sig := { parameters := [(.object "java/lang/Object")], returnType := some .boolean }, accessFlags := 1, code := some k9c1 }
/-- com/example/oversee/oversee/model/Variable -/
def k9 : Class := { plain "com/example/oversee/oversee/model/Variable" (some 0) with
  accessFlags := 49
  interfaces := #[]
  cf := some (fileOf pool9 18 #[] #[{ accessFlags := 1, nameIndex := 5, descriptorIndex := 45, attributes := #[] }, { accessFlags := 1, nameIndex := 31, descriptorIndex := 32, attributes := #[] }] 49 2 #[] #[{ accessFlags := 18, nameIndex := 8, descriptorIndex := 21, attributes := #[] }, { accessFlags := 18, nameIndex := 23, descriptorIndex := 28, attributes := #[] }])
  fields := #[{ name := "name", type := (.object "java/lang/String"), accessFlags := 18, slot := 0, constantValue := 0 }, { name := "sort", type := (.object "com/example/oversee/oversee/model/Sort"), accessFlags := 18, slot := 1, constantValue := 0 }]
  methods := #[k9m0, k9m1]
  instanceTypes := #[(.object "java/lang/String"), (.object "com/example/oversee/oversee/model/Sort")]
  staticTypes := #[]
  resolved := Array.replicate 73 none
  statics := none }

def pool10 : Array CpInfo := pool [(2, .class_ 4), (1, u "java/lang/Enum"), (0, u "name"), (0, u "Ljava/lang/String;"), (2, u "ordinal"), (0, u "I"), (1, .class_ 14), (1, u "java/lang/Object"), (4, u "hash"), (86, .class_ 108), (1, u "java/lang/Enum$EnumDesc"), (2, .class_ 112), (0, u "java/lang/constant/Constable"), (0, .class_ 114), (0, u "java/lang/Comparable"), (0, .class_ 116), (0, u "java/io/Serializable")] 87

/-- java/lang/Enum -/
def k10 : Class := { plain "java/lang/Enum" (some 0) with
  accessFlags := 1057
  interfaces := #[6, 4, 3]
  cf := some (fileOf pool10 2 #[.nestMembers #[106]] #[] 1057 12 #[111, 113, 115] #[{ accessFlags := 18, nameIndex := 5, descriptorIndex := 6, attributes := #[] }, { accessFlags := 18, nameIndex := 9, descriptorIndex := 10, attributes := #[] }, { accessFlags := 2, nameIndex := 19, descriptorIndex := 10, attributes := #[] }])
  fields := #[{ name := "name", type := (.object "java/lang/String"), accessFlags := 18, slot := 0, constantValue := 0 }, { name := "ordinal", type := .int, accessFlags := 18, slot := 1, constantValue := 0 }, { name := "hash", type := .int, accessFlags := 2, slot := 2, constantValue := 0 }]
  methods := #[]
  instanceTypes := #[(.object "java/lang/String"), .int, .int]
  staticTypes := #[]
  resolved := Array.replicate 204 none
  statics := none }

def pool11 : Array CpInfo := pool [(1, .class_ 2), (0, u "com/example/oversee/oversee/model/Sort"), (2, u "INT"), (0, u "Lcom/example/oversee/oversee/model/Sort;"), (2, u "REAL"), (2, u "BOOL"), (2, u "STRING"), (2, u "$VALUES"), (0, u "[Lcom/example/oversee/oversee/model/Sort;"), (6, .class_ 28), (1, u "java/lang/Enum"), (8, u "label"), (0, u "Ljava/lang/String;")] 55

/-- com/example/oversee/oversee/model/Sort -/
def k11 : Class := { plain "com/example/oversee/oversee/model/Sort" (some 10) with
  accessFlags := 16433
  interfaces := #[]
  cf := some (fileOf pool11 1 #[] #[] 16433 26 #[] #[{ accessFlags := 16409, nameIndex := 5, descriptorIndex := 6, attributes := #[] }, { accessFlags := 16409, nameIndex := 9, descriptorIndex := 6, attributes := #[] }, { accessFlags := 16409, nameIndex := 12, descriptorIndex := 6, attributes := #[] }, { accessFlags := 16409, nameIndex := 15, descriptorIndex := 6, attributes := #[] }, { accessFlags := 18, nameIndex := 37, descriptorIndex := 38, attributes := #[] }, { accessFlags := 4122, nameIndex := 18, descriptorIndex := 19, attributes := #[] }])
  fields := #[{ name := "INT", type := (.object "com/example/oversee/oversee/model/Sort"), accessFlags := 16409, slot := 0, constantValue := 0 }, { name := "REAL", type := (.object "com/example/oversee/oversee/model/Sort"), accessFlags := 16409, slot := 1, constantValue := 0 }, { name := "BOOL", type := (.object "com/example/oversee/oversee/model/Sort"), accessFlags := 16409, slot := 2, constantValue := 0 }, { name := "STRING", type := (.object "com/example/oversee/oversee/model/Sort"), accessFlags := 16409, slot := 3, constantValue := 0 }, { name := "label", type := (.object "java/lang/String"), accessFlags := 18, slot := 3, constantValue := 0 }, { name := "$VALUES", type := (.array (.object "com/example/oversee/oversee/model/Sort")), accessFlags := 4122, slot := 4, constantValue := 0 }]
  methods := #[]
  instanceTypes := #[(.object "java/lang/String"), .int, .int, (.object "java/lang/String")]
  staticTypes := #[(.object "com/example/oversee/oversee/model/Sort"), (.object "com/example/oversee/oversee/model/Sort"), (.object "com/example/oversee/oversee/model/Sort"), (.object "com/example/oversee/oversee/model/Sort"), (.array (.object "com/example/oversee/oversee/model/Sort"))]
  resolved := Array.replicate 94 none
  statics := some 1 }

def pool12 : Array CpInfo := pool [(2, .class_ 4), (1, u "java/lang/Object"), (0, u "<init>"), (0, u "()V"), (35, .class_ 44), (1, u "java/util/Objects"), (0, u "requireNonNull"), (48, u "(Ljava/lang/Object;Ljava/lang/String;)Ljava/lang/Object;")] 89

def k12m0 : Method := { name := "<init>", desc := "()V", sig := { parameters := [], returnType := none }, accessFlags := 2, code := none }
def k12c1 : Code := { maxStack := 3, maxLocals := 2, code := jdk_31_method_11_code, exceptionTable := #[], attributes := #[] }
def k12m1 : Method := { name := "requireNonNull", desc := "(Ljava/lang/Object;Ljava/lang/String;)Ljava/lang/Object;", sig := { parameters := [(.object "java/lang/Object"), (.object "java/lang/String")], returnType := some (.object "java/lang/Object") }, accessFlags := 9, code := some k12c1 }
/-- java/util/Objects -/
def k12 : Class := { plain "java/util/Objects" (some 0) with
  accessFlags := 49
  interfaces := #[]
  cf := some (fileOf pool12 42 #[] #[{ accessFlags := 2, nameIndex := 5, descriptorIndex := 6, attributes := #[] }, { accessFlags := 9, nameIndex := 45, descriptorIndex := 94, attributes := #[] }] 49 2 #[] #[])
  fields := #[]
  methods := #[k12m0, k12m1]
  instanceTypes := #[]
  staticTypes := #[]
  resolved := Array.replicate 184 none
  statics := none }

def pool13 : Array CpInfo := pool [(4, .class_ 6), (1, u "java/lang/Object"), (0, u "<init>"), (0, u "()V"), (5, .class_ 16), (1, u "java/lang/StringLatin1"), (73, u "canEncode"), (14, u "(C)Z"), (15, u "$assertionsDisabled"), (0, u "Z"), (98, .class_ 223), (1, u "java/lang/StringLatin1$LinesSpliterator"), (57, u "equals"), (0, u "([B[B)Z"), (97, u "toBytes"), (1, u "(C)[B"), (7, .class_ 391), (0, u "java/lang/StringLatin1$CharsSpliterator")] 3

def k13m0 : Method := { name := "<init>", desc := "()V", sig := { parameters := [], returnType := none }, accessFlags := 0, code := none }
def k13c1 : Code := { maxStack := 2, maxLocals := 1, code := jdk_43_method_3_code, exceptionTable := #[], attributes := #[] }
def k13m1 : Method := { name := "canEncode", desc := "(C)Z", sig := { parameters := [.char], returnType := some .boolean }, accessFlags := 9, code := some k13c1 }
def k13c2 : Code := { maxStack := 3, maxLocals := 3, code := jdk_43_method_13_code, exceptionTable := #[], attributes := #[] }
def k13m2 : Method := { name := "equals", desc := "([B[B)Z", sig := { parameters := [(.array .byte), (.array .byte)], returnType := some .boolean }, accessFlags := 9, code := some k13c2 }
def k13c3 : Code := { maxStack := 4, maxLocals := 1, code := jdk_43_method_46_code, exceptionTable := #[], attributes := #[] }
def k13m3 : Method := { name := "toBytes", desc := "(C)[B", sig := { parameters := [.char], returnType := some (.array .byte) }, accessFlags := 9, code := some k13c3 }
/-- java/lang/StringLatin1 -/
def k13 : Class := { plain "java/lang/StringLatin1" (some 0) with
  accessFlags := 48
  interfaces := #[]
  cf := some (fileOf pool13 14 #[.nestMembers #[390, 221]] #[{ accessFlags := 0, nameIndex := 7, descriptorIndex := 8, attributes := #[] }, { accessFlags := 9, nameIndex := 90, descriptorIndex := 105, attributes := #[] }, { accessFlags := 9, nameIndex := 281, descriptorIndex := 282, attributes := #[] }, { accessFlags := 9, nameIndex := 380, descriptorIndex := 382, attributes := #[] }] 48 4 #[] #[{ accessFlags := 4120, nameIndex := 121, descriptorIndex := 122, attributes := #[] }])
  fields := #[{ name := "$assertionsDisabled", type := .boolean, accessFlags := 4120, slot := 0, constantValue := 0 }]
  methods := #[k13m0, k13m1, k13m2, k13m3]
  instanceTypes := #[]
  staticTypes := #[.boolean]
  resolved := Array.replicate 395 none
  statics := none }

def pool14 : Array CpInfo := pool [(6, .class_ 8), (1, u "java/lang/Object"), (0, u "<init>"), (0, u "()V"), (1, .class_ 14), (1, u "java/lang/StringUTF16"), (31, u "$assertionsDisabled"), (0, u "Z"), (13, u "HI_BYTE_SHIFT"), (0, u "I"), (2, u "LO_BYTE_SHIFT"), (49, .methodref 12 116), (0, .nameAndType 117 118), (0, u "compress"), (0, u "([CI[BII)I"), (3, u "([CII)[B"), (138, u "coderFromArrayLen"), (0, u "([BI)B"), (106, .class_ 371), (1, u "java/lang/StringUTF16$LinesSpliterator"), (58, u "MAX_LENGTH"), (196, .class_ 628), (0, u "java/lang/StringUTF16$CodePointsSpliterator"), (0, .class_ 630), (0, u "java/lang/StringUTF16$CharsSpliterator")] 4

def k14m0 : Method := { name := "<init>", desc := "()V", sig := { parameters := [], returnType := none }, accessFlags := 0, code := none }
def k14c1 : Code := { maxStack := 2, maxLocals := 2, code := jdk_52_method_15_code, exceptionTable := #[], attributes := #[] }
def k14m1 : Method := { name := "coderFromArrayLen", desc := "([BI)B", sig := { parameters := [(.array .byte), .int], returnType := some .byte }, accessFlags := 8, code := some k14c1 }
def k14c2 : Code := { maxStack := 5, maxLocals := 6, code := jdk_52_method_16_code, exceptionTable := #[], attributes := #[] }
def k14m2 : Method := { name := "compress", desc := "([CII)[B", sig := { parameters := [(.array .char), .int, .int], returnType := some (.array .byte) }, accessFlags := 9, code := some k14c2 }
def k14c3 : Code := { maxStack := 3, maxLocals := 7, code := jdk_52_method_21_code, exceptionTable := #[], attributes := #[] }
def k14m3 : Method := { name := "compress", desc := "([CI[BII)I", sig := { parameters := [(.array .char), .int, (.array .byte), .int, .int], returnType := some .int }, accessFlags := 9, code := some k14c3 }
/-- java/lang/StringUTF16 -/
def k14 : Class := { plain "java/lang/StringUTF16" (some 0) with
  accessFlags := 48
  interfaces := #[]
  cf := some (fileOf pool14 12 #[.nestMembers #[627, 629, 369]] #[{ accessFlags := 0, nameIndex := 9, descriptorIndex := 10, attributes := #[] }, { accessFlags := 8, nameIndex := 261, descriptorIndex := 262, attributes := #[] }, { accessFlags := 9, nameIndex := 117, descriptorIndex := 122, attributes := #[] }, { accessFlags := 9, nameIndex := 117, descriptorIndex := 118, attributes := #[] }] 48 6 #[] #[{ accessFlags := 26, nameIndex := 61, descriptorIndex := 62, attributes := #[] }, { accessFlags := 26, nameIndex := 65, descriptorIndex := 62, attributes := #[] }, { accessFlags := 24, nameIndex := 430, descriptorIndex := 62, attributes := #[] }, { accessFlags := 4120, nameIndex := 46, descriptorIndex := 47, attributes := #[] }])
  fields := #[{ name := "HI_BYTE_SHIFT", type := .int, accessFlags := 26, slot := 0, constantValue := 0 }, { name := "LO_BYTE_SHIFT", type := .int, accessFlags := 26, slot := 1, constantValue := 0 }, { name := "MAX_LENGTH", type := .int, accessFlags := 24, slot := 2, constantValue := 0 }, { name := "$assertionsDisabled", type := .boolean, accessFlags := 4120, slot := 3, constantValue := 0 }]
  methods := #[k14m0, k14m1, k14m2, k14m3]
  instanceTypes := #[]
  staticTypes := #[.int, .int, .int, .boolean]
  resolved := Array.replicate 635 none
  statics := none }

def pool15 : Array CpInfo := pool [(2, .class_ 4), (1, u "java/lang/Object"), (0, u "<init>"), (0, u "()V"), (17, .class_ 26), (1, u "jdk/internal/util/Preconditions"), (28, .class_ 56), (0, u "jdk/internal/util/Preconditions$4"), (57, .class_ 115), (0, u "jdk/internal/util/Preconditions$1"), (7, u "SIOOBE_FORMATTER"), (0, u "Ljava/util/function/BiFunction;"), (0, .class_ 126), (0, u "jdk/internal/util/Preconditions$2"), (3, u "AIOOBE_FORMATTER"), (0, .class_ 132), (0, u "jdk/internal/util/Preconditions$3"), (3, u "IOOBE_FORMATTER")] 57

def k15m0 : Method := { name := "<init>", desc := "()V", sig := { parameters := [], returnType := none }, accessFlags := 1, code := none }
/-- jdk/internal/util/Preconditions -/
def k15 : Class := { plain "jdk/internal/util/Preconditions" (some 0) with
  accessFlags := 33
  interfaces := #[]
  cf := some (fileOf pool15 24 #[.nestMembers #[55, 131, 125, 114]] #[{ accessFlags := 1, nameIndex := 5, descriptorIndex := 6, attributes := #[] }] 33 2 #[] #[{ accessFlags := 25, nameIndex := 123, descriptorIndex := 124, attributes := #[] }, { accessFlags := 25, nameIndex := 130, descriptorIndex := 124, attributes := #[] }, { accessFlags := 25, nameIndex := 136, descriptorIndex := 124, attributes := #[] }])
  fields := #[{ name := "SIOOBE_FORMATTER", type := (.object "java/util/function/BiFunction"), accessFlags := 25, slot := 0, constantValue := 0 }, { name := "AIOOBE_FORMATTER", type := (.object "java/util/function/BiFunction"), accessFlags := 25, slot := 1, constantValue := 0 }, { name := "IOOBE_FORMATTER", type := (.object "java/util/function/BiFunction"), accessFlags := 25, slot := 2, constantValue := 0 }]
  methods := #[k15m0]
  instanceTypes := #[]
  staticTypes := #[(.object "java/util/function/BiFunction"), (.object "java/util/function/BiFunction"), (.object "java/util/function/BiFunction")]
  resolved := Array.replicate 194 none
  statics := some 2 }

def pool16 : Array CpInfo := pool [(9, u "<init>"), (6, .class_ 18), (1, u "java/lang/Object"), (0, u "()V"), (1, .class_ 23), (1, u "jdk/internal/util/ArraysSupport"), (0, u "LOG2_ARRAY_LONG_INDEX_SCALE"), (0, u "I"), (2, u "U"), (0, u "Ljdk/internal/misc/Unsafe;"), (8, u "BIG_ENDIAN"), (0, u "Z"), (8, u "LOG2_BYTE_BIT_SIZE"), (4, u "LOG2_ARRAY_INT_INDEX_SCALE"), (54, u "JLA"), (0, u "Ljdk/internal/access/JavaLangAccess;"), (11, u "LOG2_ARRAY_BOOLEAN_INDEX_SCALE"), (9, u "LOG2_ARRAY_BYTE_INDEX_SCALE"), (5, u "LOG2_ARRAY_CHAR_INDEX_SCALE"), (5, u "LOG2_ARRAY_SHORT_INDEX_SCALE"), (18, u "LOG2_ARRAY_FLOAT_INDEX_SCALE"), (24, u "LOG2_ARRAY_DOUBLE_INDEX_SCALE"), (89, u "T_BOOLEAN"), (2, u "T_CHAR"), (1, u "T_FLOAT"), (1, u "T_DOUBLE"), (1, u "T_BYTE"), (1, u "T_SHORT"), (1, u "T_INT"), (1, u "T_LONG"), (1, u "SOFT_MAX_ARRAY_LENGTH")] 83

def k16m0 : Method := { name := "<init>", desc := "()V", sig := { parameters := [], returnType := none }, accessFlags := 2, code := none }
/-- jdk/internal/util/ArraysSupport -/
def k16 : Class := { plain "jdk/internal/util/ArraysSupport" (some 0) with
  accessFlags := 33
  interfaces := #[]
  cf := some (fileOf pool16 21 #[] #[{ accessFlags := 2, nameIndex := 9, descriptorIndex := 19, attributes := #[] }] 33 16 #[] #[{ accessFlags := 24, nameIndex := 28, descriptorIndex := 29, attributes := #[] }, { accessFlags := 26, nameIndex := 38, descriptorIndex := 39, attributes := #[] }, { accessFlags := 25, nameIndex := 121, descriptorIndex := 25, attributes := #[] }, { accessFlags := 25, nameIndex := 131, descriptorIndex := 25, attributes := #[] }, { accessFlags := 25, nameIndex := 137, descriptorIndex := 25, attributes := #[] }, { accessFlags := 25, nameIndex := 143, descriptorIndex := 25, attributes := #[] }, { accessFlags := 25, nameIndex := 53, descriptorIndex := 25, attributes := #[] }, { accessFlags := 25, nameIndex := 24, descriptorIndex := 25, attributes := #[] }, { accessFlags := 25, nameIndex := 162, descriptorIndex := 25, attributes := #[] }, { accessFlags := 25, nameIndex := 187, descriptorIndex := 25, attributes := #[] }, { accessFlags := 26, nameIndex := 48, descriptorIndex := 25, attributes := #[] }, { accessFlags := 25, nameIndex := 277, descriptorIndex := 25, attributes := #[] }, { accessFlags := 25, nameIndex := 280, descriptorIndex := 25, attributes := #[] }, { accessFlags := 25, nameIndex := 282, descriptorIndex := 25, attributes := #[] }, { accessFlags := 25, nameIndex := 284, descriptorIndex := 25, attributes := #[] }, { accessFlags := 25, nameIndex := 286, descriptorIndex := 25, attributes := #[] }, { accessFlags := 25, nameIndex := 288, descriptorIndex := 25, attributes := #[] }, { accessFlags := 25, nameIndex := 290, descriptorIndex := 25, attributes := #[] }, { accessFlags := 25, nameIndex := 292, descriptorIndex := 25, attributes := #[] }, { accessFlags := 26, nameIndex := 108, descriptorIndex := 109, attributes := #[] }, { accessFlags := 25, nameIndex := 294, descriptorIndex := 25, attributes := #[] }])
  fields := #[{ name := "U", type := (.object "jdk/internal/misc/Unsafe"), accessFlags := 24, slot := 0, constantValue := 0 }, { name := "BIG_ENDIAN", type := .boolean, accessFlags := 26, slot := 1, constantValue := 0 }, { name := "LOG2_ARRAY_BOOLEAN_INDEX_SCALE", type := .int, accessFlags := 25, slot := 2, constantValue := 0 }, { name := "LOG2_ARRAY_BYTE_INDEX_SCALE", type := .int, accessFlags := 25, slot := 3, constantValue := 0 }, { name := "LOG2_ARRAY_CHAR_INDEX_SCALE", type := .int, accessFlags := 25, slot := 4, constantValue := 0 }, { name := "LOG2_ARRAY_SHORT_INDEX_SCALE", type := .int, accessFlags := 25, slot := 5, constantValue := 0 }, { name := "LOG2_ARRAY_INT_INDEX_SCALE", type := .int, accessFlags := 25, slot := 6, constantValue := 0 }, { name := "LOG2_ARRAY_LONG_INDEX_SCALE", type := .int, accessFlags := 25, slot := 7, constantValue := 0 }, { name := "LOG2_ARRAY_FLOAT_INDEX_SCALE", type := .int, accessFlags := 25, slot := 8, constantValue := 0 }, { name := "LOG2_ARRAY_DOUBLE_INDEX_SCALE", type := .int, accessFlags := 25, slot := 9, constantValue := 0 }, { name := "LOG2_BYTE_BIT_SIZE", type := .int, accessFlags := 26, slot := 10, constantValue := 0 }, { name := "T_BOOLEAN", type := .int, accessFlags := 25, slot := 11, constantValue := 0 }, { name := "T_CHAR", type := .int, accessFlags := 25, slot := 12, constantValue := 0 }, { name := "T_FLOAT", type := .int, accessFlags := 25, slot := 13, constantValue := 0 }, { name := "T_DOUBLE", type := .int, accessFlags := 25, slot := 14, constantValue := 0 }, { name := "T_BYTE", type := .int, accessFlags := 25, slot := 15, constantValue := 0 }, { name := "T_SHORT", type := .int, accessFlags := 25, slot := 16, constantValue := 0 }, { name := "T_INT", type := .int, accessFlags := 25, slot := 17, constantValue := 0 }, { name := "T_LONG", type := .int, accessFlags := 25, slot := 18, constantValue := 0 }, { name := "JLA", type := (.object "jdk/internal/access/JavaLangAccess"), accessFlags := 26, slot := 19, constantValue := 0 }, { name := "SOFT_MAX_ARRAY_LENGTH", type := .int, accessFlags := 25, slot := 20, constantValue := 0 }]
  methods := #[k16m0]
  instanceTypes := #[]
  staticTypes := #[(.object "jdk/internal/misc/Unsafe"), .boolean, .int, .int, .int, .int, .int, .int, .int, .int, .int, .int, .int, .int, .int, .int, .int, .int, .int, (.object "jdk/internal/access/JavaLangAccess"), .int]
  resolved := Array.replicate 378 none
  statics := none }

def pool17 : Array CpInfo := pool [(1, u "java/lang/Cloneable"), (0, .class_ 1), (0, u "java/lang/Object"), (0, .class_ 3)] 3

/-- java/lang/Cloneable -/
def k17 : Class := { plain "java/lang/Cloneable" (some 0) with
  accessFlags := 1537
  interfaces := #[]
  cf := some (fileOf pool17 2 #[] #[] 1537 4 #[] #[])
  fields := #[]
  methods := #[]
  instanceTypes := #[]
  staticTypes := #[]
  resolved := Array.replicate 8 none
  statics := none }

/-- the primitive byte -/
def k18 : Class := { plain "byte" none with kind := .primitive 'B', accessFlags := 0x411 }
/-- [B -/
def k19 : Class := { plain "[B" (some 0) with kind := .array 18 .byte, interfaces := #[17, 3], accessFlags := 1041 }

/-- the primitive char -/
def k20 : Class := { plain "char" none with kind := .primitive 'C', accessFlags := 0x411 }
/-- [C -/
def k21 : Class := { plain "[C" (some 0) with kind := .array 20 .char, interfaces := #[17, 3], accessFlags := 1041 }

/-- the primitive int -/
def k22 : Class := { plain "int" none with kind := .primitive 'I', accessFlags := 0x411 }
/-- [I -/
def k23 : Class := { plain "[I" (some 0) with kind := .array 22 .int, interfaces := #[17, 3], accessFlags := 1041 }

def heap : Heap := #[{ cls := 8, slots := #[.long 0, .int 1, .null, .int 0, .null, .int 0, .int 0], vm := .statics 8 },
  { cls := 11, slots := #[.ref 3, .ref 4, .ref 5, .ref 6, .null], vm := .statics 11 },
  { cls := 15, slots := #[.null, .null, .null], vm := .statics 15 },
  { cls := 11, slots := #[.null, .int 0, .int 0, .null], vm := .none },
  { cls := 11, slots := #[.null, .int 1, .int 0, .null], vm := .none },
  { cls := 11, slots := #[.null, .int 2, .int 0, .null], vm := .none },
  { cls := 11, slots := #[.null, .int 3, .int 0, .null], vm := .none }]
def classes : Array Class := #[k0, k1, k2, k3, k4, k5, k6, k7, k8, k9, k10, k11, k12, k13, k14, k15, k16, k17, k18, k19, k20, k21, k22, k23]
def interned : List (Array UInt16 × Addr) := []
def slotsUsed : Nat := 31
def theMethod : MethodId := ⟨1, 3⟩
def args0 : Array Value := #[.int 5, .int 7, .int 5]
def aboutOver (below : List Frame) : State where
  vm := { classes := classes, interned := interned.toArray }
  heap := heap
  slotsUsed := slotsUsed
  threads := #[{ frames := .invoking theMethod args0 :: below }]
def below0 : List Frame := [.native { method := ⟨0, 0⟩, args := #[] }]
def about1 : State := aboutOver below0
def p0 : Program := .bare "" "" ""
def e0 : Env := launch0.env 0 0 0
theorem w_frames : about1.frames = Frame.invoking theMethod args0 :: below0 := rfl
set_option maxRecDepth 65536 in
theorem w_args : argsFit about1.vm theMethod args0 = true := by decide +kernel
set_option maxRecDepth 65536 in
theorem w_heap : heapFits about1 = true := by decide +kernel
set_option maxRecDepth 65536 in
theorem w_runnable : about1.curStatus? = some .runnable := by decide +kernel
set_option maxRecDepth 65536 in
theorem w_alone : about1.alone = true := by decide +kernel
set_option maxRecDepth 65536 in
theorem w_named : about1.methodNamed? x = some theMethod := by decide +kernel
set_option maxRecDepth 65536 in
theorem w_hears : about1.hears theMethod below0 = true := by decide +kernel
set_option maxRecDepth 65536 in
theorem w_ripe : about1.ripe theMethod args0 below0 = true := by decide +kernel
theorem w_running : about1.status = .running := rfl
set_option maxRecDepth 65536 in
theorem w_room : about1.hasRoom e0.platform room_1 = true :=
  launch0.hasRoom_least _ room_1 (by decide +kernel) (by decide +kernel) (by decide +kernel) (by decide +kernel) (by decide +kernel) (by decide +kernel)
theorem allAtoms_all (ts : List Jvm.Cond) (a : Array Jvm.Value) (st : Jvm.State) : (allAtoms ts).before a st = ts.all (fun c => c.before a st) := by
  induction ts with
  | nil => rfl
  | cons c t ih =>
    show (Jvm.Cond.and c (allAtoms t)).before a st = _
    rw [Jvm.Cond.before_and, ih, List.all_cons]
def words1 : List Jvm.Cond := Jvm.Cond.code x code maxLocals ret :: tables_1
/-- a 'code' word, met by the world's own term for the bytes: nothing is compared byte by byte -/
theorem code_word {y : MethodName} {bytes : ByteArray} {mx : Nat} {rt : Option FieldType} {a : Array Value} {s : State} {m : MethodId} {meth : Method} {c : Code} (h1 : s.methodNamed? y = some m) (h2 : s.vm.method? m = some meth) (h3 : meth.code = some c) (h4 : c.code = bytes)
    (h5 : (c.maxLocals == mx && c.exceptionTable.isEmpty && decide (c.maxStack ≤ mostOperands) && decide (meth.sig.returnType = rt) && !meth.locks && decide (parseMethodDescriptor y.desc = some meth.sig)) = true) : (Jvm.Cond.code y bytes mx rt).before a s = true := by
  simp only [Bool.and_eq_true, beq_iff_eq, Bool.not_eq_true', decide_eq_true_eq] at h5
  obtain ⟨⟨⟨⟨⟨g1, g2⟩, g3⟩, g4⟩, g5⟩, g6⟩ := h5
  simp [Cond.before, Cond.holds, Cond.value, h1, h2, h3, h4, g1, g2, g3, g4, g5, g6]
def isCode : Jvm.Cond → Bool
  | .code _ _ _ _ => true
  | _ => false
theorem all_split {L : List Jvm.Cond} {P : Jvm.Cond → Bool} (h1 : L.all (fun c => isCode c || P c) = true) (h2 : ∀ c ∈ L.filter isCode, P c = true) : L.all P = true := by
  refine List.all_eq_true.mpr fun c hc => ?_
  have h := List.all_eq_true.mp h1 c hc
  rcases Bool.eq_false_or_eq_true (isCode c) with hi | hi
  · exact h2 c (List.mem_filter.mpr ⟨hc, hi⟩)
  · simpa [hi] using h
set_option maxRecDepth 65536 in
theorem w_c0 : (Jvm.Cond.code x code maxLocals ret).before args0 about1 = true := code_word (m := ⟨1, 3⟩) (meth := k1m3) (c := k1c3) (by decide +kernel) rfl rfl rfl (by decide +kernel)
set_option maxRecDepth 65536 in
theorem w_c1 : (Jvm.Cond.code ({ cls := "java/lang/Math", name := "min", desc := "(II)I" } : Jvm.MethodName) jdk_29_method_69_code (2 : Nat) (Option.some Jvm.ClassFile.FieldType.int)).before args0 about1 = true := code_word (m := ⟨2, 1⟩) (meth := k2m1) (c := k2c1) (by decide +kernel) rfl rfl rfl (by decide +kernel)
set_option maxRecDepth 65536 in
theorem w_c2 : (Jvm.Cond.code ({ cls := "com/example/oversee/oversee/model/VariableEqualsPinLaw", name := "mk", desc := "(ICC)Ljava/lang/String;" } : Jvm.MethodName) method_2_code (3 : Nat) (Option.some (Jvm.ClassFile.FieldType.object "java/lang/String"))).before args0 about1 = true := code_word (m := ⟨1, 1⟩) (meth := k1m1) (c := k1c1) (by decide +kernel) rfl rfl rfl (by decide +kernel)
set_option maxRecDepth 65536 in
theorem w_c3 : (Jvm.Cond.code ({ cls := "java/lang/String", name := "<init>", desc := "([C)V" } : Jvm.MethodName) jdk_42_method_3_code (2 : Nat) (Option.none : Option Jvm.ClassFile.FieldType)).before args0 about1 = true := code_word (m := ⟨8, 1⟩) (meth := k8m1) (c := k8c1) (by decide +kernel) rfl rfl rfl (by decide +kernel)
set_option maxRecDepth 65536 in
theorem w_c4 : (Jvm.Cond.code ({ cls := "java/lang/String", name := "<init>", desc := "([CIILjava/lang/Void;)V" } : Jvm.MethodName) jdk_42_method_149_code (6 : Nat) (Option.none : Option Jvm.ClassFile.FieldType)).before args0 about1 = true := code_word (m := ⟨8, 4⟩) (meth := k8m4) (c := k8c4) (by decide +kernel) rfl rfl rfl (by decide +kernel)
set_option maxRecDepth 65536 in
theorem w_c5 : (Jvm.Cond.code ({ cls := "java/lang/Object", name := "<init>", desc := "()V" } : Jvm.MethodName) object_method_1_code (1 : Nat) (Option.none : Option Jvm.ClassFile.FieldType)).before args0 about1 = true := code_word (m := ⟨0, 0⟩) (meth := k0m0) (c := k0c0) (by decide +kernel) rfl rfl rfl (by decide +kernel)
set_option maxRecDepth 65536 in
theorem w_c6 : (Jvm.Cond.code ({ cls := "com/example/oversee/oversee/model/VariableEqualsPinLaw", name := "sortOf", desc := "(I)Lcom/example/oversee/oversee/model/Sort;" } : Jvm.MethodName) method_3_code (1 : Nat) (Option.some (Jvm.ClassFile.FieldType.object "com/example/oversee/oversee/model/Sort"))).before args0 about1 = true := code_word (m := ⟨1, 2⟩) (meth := k1m2) (c := k1c2) (by decide +kernel) rfl rfl rfl (by decide +kernel)
set_option maxRecDepth 65536 in
theorem w_c7 : (Jvm.Cond.code ({ cls := "com/example/oversee/oversee/model/Variable", name := "<init>", desc := "(Ljava/lang/String;Lcom/example/oversee/oversee/model/Sort;)V" } : Jvm.MethodName) prog_34_method_1_code (3 : Nat) (Option.none : Option Jvm.ClassFile.FieldType)).before args0 about1 = true := code_word (m := ⟨9, 0⟩) (meth := k9m0) (c := k9c0) (by decide +kernel) rfl rfl rfl (by decide +kernel)
set_option maxRecDepth 65536 in
theorem w_c8 : (Jvm.Cond.code ({ cls := "java/util/Objects", name := "requireNonNull", desc := "(Ljava/lang/Object;Ljava/lang/String;)Ljava/lang/Object;" } : Jvm.MethodName) jdk_31_method_11_code (2 : Nat) (Option.some (Jvm.ClassFile.FieldType.object "java/lang/Object"))).before args0 about1 = true := code_word (m := ⟨12, 1⟩) (meth := k12m1) (c := k12c1) (by decide +kernel) rfl rfl rfl (by decide +kernel)
set_option maxRecDepth 65536 in
theorem w_c9 : (Jvm.Cond.code ({ cls := "com/example/oversee/oversee/model/Variable", name := "equals", desc := "(Ljava/lang/Object;)Z" } : Jvm.MethodName) prog_34_method_4_code (3 : Nat) (Option.some Jvm.ClassFile.FieldType.boolean)).before args0 about1 = true := code_word (m := ⟨9, 1⟩) (meth := k9m1) (c := k9c1) (by decide +kernel) rfl rfl rfl (by decide +kernel)
set_option maxRecDepth 65536 in
theorem w_c10 : (Jvm.Cond.code ({ cls := "java/lang/String", name := "valueOf", desc := "(C)Ljava/lang/String;" } : Jvm.MethodName) jdk_42_method_139_code (1 : Nat) (Option.some (Jvm.ClassFile.FieldType.object "java/lang/String"))).before args0 about1 = true := code_word (m := ⟨8, 3⟩) (meth := k8m3) (c := k8c3) (by decide +kernel) rfl rfl rfl (by decide +kernel)
set_option maxRecDepth 65536 in
theorem w_c11 : (Jvm.Cond.code ({ cls := "java/lang/StringLatin1", name := "canEncode", desc := "(C)Z" } : Jvm.MethodName) jdk_43_method_3_code (1 : Nat) (Option.some Jvm.ClassFile.FieldType.boolean)).before args0 about1 = true := code_word (m := ⟨13, 1⟩) (meth := k13m1) (c := k13c1) (by decide +kernel) rfl rfl rfl (by decide +kernel)
set_option maxRecDepth 65536 in
theorem w_c12 : (Jvm.Cond.code ({ cls := "java/lang/StringLatin1", name := "toBytes", desc := "(C)[B" } : Jvm.MethodName) jdk_43_method_46_code (1 : Nat) (Option.some (Jvm.ClassFile.FieldType.array Jvm.ClassFile.FieldType.byte))).before args0 about1 = true := code_word (m := ⟨13, 3⟩) (meth := k13m3) (c := k13c3) (by decide +kernel) rfl rfl rfl (by decide +kernel)
set_option maxRecDepth 65536 in
theorem w_c13 : (Jvm.Cond.code ({ cls := "java/lang/String", name := "<init>", desc := "([BB)V" } : Jvm.MethodName) jdk_42_method_151_code (3 : Nat) (Option.none : Option Jvm.ClassFile.FieldType)).before args0 about1 = true := code_word (m := ⟨8, 5⟩) (meth := k8m5) (c := k8c5) (by decide +kernel) rfl rfl rfl (by decide +kernel)
set_option maxRecDepth 65536 in
theorem w_c14 : (Jvm.Cond.code ({ cls := "java/lang/StringUTF16", name := "compress", desc := "([CII)[B" } : Jvm.MethodName) jdk_52_method_16_code (6 : Nat) (Option.some (Jvm.ClassFile.FieldType.array Jvm.ClassFile.FieldType.byte))).before args0 about1 = true := code_word (m := ⟨14, 2⟩) (meth := k14m2) (c := k14c2) (by decide +kernel) rfl rfl rfl (by decide +kernel)
set_option maxRecDepth 65536 in
theorem w_c15 : (Jvm.Cond.code ({ cls := "java/lang/StringUTF16", name := "compress", desc := "([CI[BII)I" } : Jvm.MethodName) jdk_52_method_21_code (7 : Nat) (Option.some Jvm.ClassFile.FieldType.int)).before args0 about1 = true := code_word (m := ⟨14, 3⟩) (meth := k14m3) (c := k14c3) (by decide +kernel) rfl rfl rfl (by decide +kernel)
set_option maxRecDepth 65536 in
theorem w_c16 : (Jvm.Cond.code ({ cls := "java/lang/StringUTF16", name := "coderFromArrayLen", desc := "([BI)B" } : Jvm.MethodName) jdk_52_method_15_code (2 : Nat) (Option.some Jvm.ClassFile.FieldType.byte)).before args0 about1 = true := code_word (m := ⟨14, 1⟩) (meth := k14m1) (c := k14c1) (by decide +kernel) rfl rfl rfl (by decide +kernel)
set_option maxRecDepth 65536 in
theorem w_c17 : (Jvm.Cond.code ({ cls := "java/lang/String", name := "equals", desc := "(Ljava/lang/Object;)Z" } : Jvm.MethodName) jdk_42_method_66_code (3 : Nat) (Option.some Jvm.ClassFile.FieldType.boolean)).before args0 about1 = true := code_word (m := ⟨8, 2⟩) (meth := k8m2) (c := k8c2) (by decide +kernel) rfl rfl rfl (by decide +kernel)
set_option maxRecDepth 65536 in
theorem w_c18 : (Jvm.Cond.code ({ cls := "java/lang/StringLatin1", name := "equals", desc := "([B[B)Z" } : Jvm.MethodName) jdk_43_method_13_code (3 : Nat) (Option.some Jvm.ClassFile.FieldType.boolean)).before args0 about1 = true := code_word (m := ⟨13, 2⟩) (meth := k13m2) (c := k13c2) (by decide +kernel) rfl rfl rfl (by decide +kernel)
def codes1 : List Jvm.Cond := [Jvm.Cond.code x code maxLocals ret, Jvm.Cond.code ({ cls := "java/lang/Math", name := "min", desc := "(II)I" } : Jvm.MethodName) jdk_29_method_69_code (2 : Nat) (Option.some Jvm.ClassFile.FieldType.int), Jvm.Cond.code ({ cls := "com/example/oversee/oversee/model/VariableEqualsPinLaw", name := "mk", desc := "(ICC)Ljava/lang/String;" } : Jvm.MethodName) method_2_code (3 : Nat) (Option.some (Jvm.ClassFile.FieldType.object "java/lang/String")), Jvm.Cond.code ({ cls := "java/lang/String", name := "<init>", desc := "([C)V" } : Jvm.MethodName) jdk_42_method_3_code (2 : Nat) (Option.none : Option Jvm.ClassFile.FieldType), Jvm.Cond.code ({ cls := "java/lang/String", name := "<init>", desc := "([CIILjava/lang/Void;)V" } : Jvm.MethodName) jdk_42_method_149_code (6 : Nat) (Option.none : Option Jvm.ClassFile.FieldType), Jvm.Cond.code ({ cls := "java/lang/Object", name := "<init>", desc := "()V" } : Jvm.MethodName) object_method_1_code (1 : Nat) (Option.none : Option Jvm.ClassFile.FieldType), Jvm.Cond.code ({ cls := "com/example/oversee/oversee/model/VariableEqualsPinLaw", name := "sortOf", desc := "(I)Lcom/example/oversee/oversee/model/Sort;" } : Jvm.MethodName) method_3_code (1 : Nat) (Option.some (Jvm.ClassFile.FieldType.object "com/example/oversee/oversee/model/Sort")), Jvm.Cond.code ({ cls := "com/example/oversee/oversee/model/Variable", name := "<init>", desc := "(Ljava/lang/String;Lcom/example/oversee/oversee/model/Sort;)V" } : Jvm.MethodName) prog_34_method_1_code (3 : Nat) (Option.none : Option Jvm.ClassFile.FieldType), Jvm.Cond.code ({ cls := "java/util/Objects", name := "requireNonNull", desc := "(Ljava/lang/Object;Ljava/lang/String;)Ljava/lang/Object;" } : Jvm.MethodName) jdk_31_method_11_code (2 : Nat) (Option.some (Jvm.ClassFile.FieldType.object "java/lang/Object")), Jvm.Cond.code ({ cls := "com/example/oversee/oversee/model/Variable", name := "equals", desc := "(Ljava/lang/Object;)Z" } : Jvm.MethodName) prog_34_method_4_code (3 : Nat) (Option.some Jvm.ClassFile.FieldType.boolean), Jvm.Cond.code ({ cls := "java/lang/String", name := "valueOf", desc := "(C)Ljava/lang/String;" } : Jvm.MethodName) jdk_42_method_139_code (1 : Nat) (Option.some (Jvm.ClassFile.FieldType.object "java/lang/String")), Jvm.Cond.code ({ cls := "java/lang/StringLatin1", name := "canEncode", desc := "(C)Z" } : Jvm.MethodName) jdk_43_method_3_code (1 : Nat) (Option.some Jvm.ClassFile.FieldType.boolean), Jvm.Cond.code ({ cls := "java/lang/StringLatin1", name := "toBytes", desc := "(C)[B" } : Jvm.MethodName) jdk_43_method_46_code (1 : Nat) (Option.some (Jvm.ClassFile.FieldType.array Jvm.ClassFile.FieldType.byte)), Jvm.Cond.code ({ cls := "java/lang/String", name := "<init>", desc := "([BB)V" } : Jvm.MethodName) jdk_42_method_151_code (3 : Nat) (Option.none : Option Jvm.ClassFile.FieldType), Jvm.Cond.code ({ cls := "java/lang/StringUTF16", name := "compress", desc := "([CII)[B" } : Jvm.MethodName) jdk_52_method_16_code (6 : Nat) (Option.some (Jvm.ClassFile.FieldType.array Jvm.ClassFile.FieldType.byte)), Jvm.Cond.code ({ cls := "java/lang/StringUTF16", name := "compress", desc := "([CI[BII)I" } : Jvm.MethodName) jdk_52_method_21_code (7 : Nat) (Option.some Jvm.ClassFile.FieldType.int), Jvm.Cond.code ({ cls := "java/lang/StringUTF16", name := "coderFromArrayLen", desc := "([BI)B" } : Jvm.MethodName) jdk_52_method_15_code (2 : Nat) (Option.some Jvm.ClassFile.FieldType.byte), Jvm.Cond.code ({ cls := "java/lang/String", name := "equals", desc := "(Ljava/lang/Object;)Z" } : Jvm.MethodName) jdk_42_method_66_code (3 : Nat) (Option.some Jvm.ClassFile.FieldType.boolean), Jvm.Cond.code ({ cls := "java/lang/StringLatin1", name := "equals", desc := "([B[B)Z" } : Jvm.MethodName) jdk_43_method_13_code (3 : Nat) (Option.some Jvm.ClassFile.FieldType.boolean)]
set_option maxRecDepth 65536 in
theorem codes_eq : words1.filter isCode = codes1 := rfl
theorem w_codes : ∀ c ∈ words1.filter isCode, c.before args0 about1 = true := by
  rw [codes_eq]
  intro c hc
  simp only [codes1, List.mem_cons, List.not_mem_nil, or_false] at hc
  rcases hc with rfl | rfl | rfl | rfl | rfl | rfl | rfl | rfl | rfl | rfl | rfl | rfl | rfl | rfl | rfl | rfl | rfl | rfl | rfl
  · exact w_c0
  · exact w_c1
  · exact w_c2
  · exact w_c3
  · exact w_c4
  · exact w_c5
  · exact w_c6
  · exact w_c7
  · exact w_c8
  · exact w_c9
  · exact w_c10
  · exact w_c11
  · exact w_c12
  · exact w_c13
  · exact w_c14
  · exact w_c15
  · exact w_c16
  · exact w_c17
  · exact w_c18
set_option maxRecDepth 65536 in
theorem w_t1 : (words1.take 24).all (fun c => isCode c || c.before args0 about1) = true := by decide +kernel
set_option maxRecDepth 65536 in
theorem w_t2 : ((words1.drop 24).take 24).all (fun c => isCode c || c.before args0 about1) = true := by decide +kernel
set_option maxRecDepth 65536 in
theorem w_t3 : (((words1.drop 24).drop 24).take 24).all (fun c => isCode c || c.before args0 about1) = true := by decide +kernel
set_option maxRecDepth 65536 in
theorem w_t4 : ((((words1.drop 24).drop 24).drop 24).take 24).all (fun c => isCode c || c.before args0 about1) = true := by decide +kernel
set_option maxRecDepth 65536 in
theorem w_t5 : ((((words1.drop 24).drop 24).drop 24).drop 24).all (fun c => isCode c || c.before args0 about1) = true := by decide +kernel
theorem w_tables : (allAtoms (Jvm.Cond.code x code maxLocals ret :: tables_1)).before args0 about1 = true := by
  rw [allAtoms_all]
  show words1.all (fun c => c.before args0 about1) = true
  refine all_split ?_ w_codes
  rw [← List.take_append_drop 24 words1, List.all_append, w_t1, ← List.take_append_drop 24 (words1.drop 24), List.all_append, w_t2, ← List.take_append_drop 24 ((words1.drop 24).drop 24), List.all_append, w_t3, ← List.take_append_drop 24 (((words1.drop 24).drop 24).drop 24), List.all_append, w_t4, w_t5]
  rfl
set_option maxRecDepth 65536 in
theorem w_rest : rest_1_c.before args0 about1 = true := by decide +kernel
set_option maxRecDepth 65536 in
theorem w_case : (Jvm.Cond.and given_1 narrow_1).before args0 about1 = true := by decide +kernel
set_option maxRecDepth 65536 in
theorem w_consts : constsHeld consts_1 about1 := Jvm.Lit.constsHeldB_iff.mp (by decide +kernel)
theorem w_applies : (headSpec (Jvm.Cond.code x code maxLocals ret :: tables_1) room_1).applies x e0.platform about1 = true :=
  (Spec.applies_iff w_frames).mpr ⟨w_running, w_runnable, w_alone, w_named, w_hears, w_ripe, w_room, w_tables⟩
theorem atStart : AtStart classFile x code maxLocals ret World_1 tables_1 room_1 Calls_1 rest_1 Pre_1 launch0 p0 e0 about1 theMethod args0 below0 :=
  ⟨lists_1, trivial, launch0.admits_env _ _ _, launch0.least_env, fairChoices_fair.cas, fairChoices_fair.clock, w_frames, w_args, w_heap, w_applies, ⟨w_consts, trivial⟩, w_rest, w_case⟩
end start1
theorem witness_1 : WitnessClaimed_1 := ⟨start1.p0, start1.e0, start1.about1, start1.theMethod, start1.args0, start1.below0, start1.atStart⟩
end Jvm.Pilot.@@N@@
